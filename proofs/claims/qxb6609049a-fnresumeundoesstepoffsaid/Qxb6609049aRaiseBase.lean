import Derived.Test.Qxb6609049aRows
import Derived.WalkKit
import Derived.WalkSpells
import Derived.WalkLawsBesides
import Derived.Laws.Pointers
import Derived.Laws.LoneSync
import Derived.LoopN
namespace Go.Proofs.Qxb6609049a
open Go.RowKit

theorem hidden {p : Prop} (h : p) : Hid p := h
def IsBool (e : Ending) : Prop := ∃ b, e = .returned (.bool b)

/-- a slice of integers: the elements l lie, one cell each, behind the address -/
def IntRow (w : World) (ao : Option Addr) (l : List Int) : Prop :=
  ∀ k z, l[k]? = some z → ∃ b off, ao = some ⟨b, off, none⟩ ∧ b < w.heap.size ∧ w.cell? ⟨b, off + k, none⟩ = some (.int .i64 z)

theorem IntRow.below {w w' : World} {ao : Option Addr} {l : List Int} (h : IntRow w ao l) (hb : Below w.heap.size w w') : IntRow w' ao l := by
  intro k b hk
  obtain ⟨g, off, h1, h2, h3⟩ := h k b hk
  exact ⟨g, off, h1, Nat.lt_of_lt_of_le h2 hb.size, (hb.cell (p := ⟨g, _, none⟩) h2).trans h3⟩

/-- an atomic cell in block b that holds x -/
def Atom (w : World) (b : Nat) (x : Int) : Prop := w.cell? ⟨b, 0, none⟩ = some (.int .i64 x) ∧ w.frozen? ⟨b, 0, none⟩ = false

theorem Atom.lt {w : World} {b : Nat} {x : Int} (h : Atom w b x) : b < w.heap.size := World.block_lt_of_cell? w _ h.1
theorem Atom.kept {w w' : World} {b b' : Nat} {x : Int} (h : Atom w b x) (hg : w.grownBy w' (some b')) (hne : b ≠ b') : Atom w' b x := by
  have e := hg.block b h.lt (by simpa using hne)
  exact ⟨(World.cell?_of_block (a := ⟨b, 0, none⟩) e).trans h.1, (World.frozen?_of_block (a := ⟨b, 0, none⟩) e).trans h.2⟩

theorem grown_set (w : World) (b : Nat) (v : Value) : w.grownBy (w.setCell ⟨b, 0, none⟩ v) (some b) :=
  ⟨rfl, rfl, rfl, by simp, fun k _ hk => Below.heap_setCell _ _ _ k (fun e => hk (by rw [e]))⟩

set_option maxHeartbeats 400000 in
theorem load_any (b off : Nat) (x : Int) (w : World) (h : w.cell? ⟨b, off, none⟩ = some (.int .i64 x)) :
    Calls Try.prog 20 #[.pointer (some ⟨b, off, none⟩)] w fun e w' => e = .returned (.int .i64 x) ∧ w' = w := by
  have hl := run_call_load (P := Try.prog) Try.func25 (by kernel_rfl) (by kernel_rfl) (by kernel_rfl) .i64 (by kernel_rfl) h
  go_enter Try.func20, Try.ntmps20
  go_wp2
  go_ret
  exact ⟨rfl, rfl⟩

set_option maxHeartbeats 400000 in
theorem store_any (b off : Nat) (u : Value) (y : Int) (w : World) (h : w.cell? ⟨b, off, none⟩ = some u) (f : w.frozen? ⟨b, off, none⟩ = false) :
    Calls Try.prog 18 #[.pointer (some ⟨b, off, none⟩), .int .i64 y] w fun e w' => e = .returned (.tuple #[]) ∧ w' = w.setCell ⟨b, off, none⟩ (.int .i64 y) := by
  have hl := run_call_store (P := Try.prog) (k := .i64) (y := y) Try.func23 (by kernel_rfl) (by kernel_rfl) (by kernel_rfl) (by kernel_rfl) h f
  go_enter Try.func18, Try.ntmps18
  go_wp2
  go_end0
  exact ⟨rfl, rfl⟩

set_option maxHeartbeats 400000 in
theorem cas_any (b off : Nat) (x y : Int) (w : World) (h : w.cell? ⟨b, off, none⟩ = some (.int .i64 x)) (f : w.frozen? ⟨b, off, none⟩ = false) :
    Calls Try.prog 24 #[.pointer (some ⟨b, off, none⟩), .int .i64 x, .int .i64 y] w fun e w' => e = .returned (.bool true) ∧ w' = w.setCell ⟨b, off, none⟩ (.int .i64 y) := by
  have hl := run_call_cas_hit (P := Try.prog) Try.func27 (by kernel_rfl) (by kernel_rfl) (by kernel_rfl) .i64 (by kernel_rfl) (y := y) h f
  go_enter Try.func24, Try.ntmps24
  go_wp2
  go_ret
  exact ⟨rfl, rfl⟩

set_option maxHeartbeats 400000 in
theorem newCell_any (v : Int) (w : World) :
    Calls Try.prog 7 #[.int .i64 v] w fun e w' => e = .returned (.pointer (some ⟨w.heap.size, 0, none⟩)) ∧ Atom w' w.heap.size v ∧ w.heap.size < w'.heap.size ∧ Below w.heap.size w w' := by
  go_enter Try.func7, Try.ntmps7
  go_wp2_with fail
  refine (store_any w.heap.size 0 (.int .i64 0) v _ (by simp) (by simp)).mono ?_
  rintro e w' ⟨rfl, rfl⟩
  rw [World.setCell_alloc_at _ _ _ _ _ rfl]
  go_wp2
  go_ret
  exact ⟨rfl, ⟨by simp, by simp⟩, by simp, (Below.refl _ _).alloc (Nat.le_refl _) _⟩

set_option maxHeartbeats 400000 in
theorem raise_any (b : Nat) (h v : Int) (w : World) (ha : Atom w b h) :
    Calls Try.prog 19 #[.pointer (some ⟨b, 0, none⟩), .int .i64 v] w fun e w' => e = .returned (.tuple #[]) ∧ Atom w' b (max h v) ∧ w.grownBy w' (some b) := by
  obtain ⟨hc, hf⟩ := ha
  by_cases hv : v ≤ h
  · have hd : decide (v ≤ h) = true := decide_eq_true hv
    have hm : max h v = h := by omega
    rw [hm]
    clear hm
    go_enter Try.func19, Try.ntmps19
    go_wp2
    refine wp_loop_rounds 1 ?_
    rw [rounds_succ]
    go_wp2_with (go_at_call 20; refine (load_any b 0 h w hc).mono ?_; rintro e w' ⟨rfl, rfl⟩)
    refine bodyPost_ret (results_none rfl _ _ _) rfl ?_
    exact ⟨rfl, ⟨hc, hf⟩, World.grownBy.refl _ _⟩
  · have hd : decide (v ≤ h) = false := decide_eq_false hv
    have hm : max h v = v := by omega
    rw [hm]
    clear hm
    go_enter Try.func19, Try.ntmps19
    go_wp2
    refine wp_loop_rounds 1 ?_
    rw [rounds_succ]
    go_wp2_with (first | (go_at_call 20; refine (load_any b 0 h w hc).mono ?_; rintro e w' ⟨rfl, rfl⟩) | (go_at_call 24; refine (cas_any b 0 h v _ hc hf).mono ?_; rintro e w' ⟨rfl, rfl⟩))
    refine bodyPost_ret (results_none rfl _ _ _) rfl ?_
    exact ⟨rfl, ⟨World.cell?_setCell_same' _ _ _ (by rw [hc]; rfl), by rw [World.frozen?_setCell]; exact hf⟩, grown_set _ _ _⟩

set_option maxHeartbeats 400000 in
theorem zzraise_any (b : Nat) (h v : Int) (w : World) (ha : Atom w b h) :
    Calls Try.prog 8 #[.pointer (some ⟨b, 0, none⟩), .int .i64 v] w fun e w' => e = .returned (.tuple #[]) ∧ Atom w' b (max h v) ∧ w.grownBy w' (some b) := by
  go_enter Try.func8, Try.ntmps8
  go_wp2_with fail
  refine (raise_any b h v w ha).mono ?_
  rintro e w' ⟨rfl, h1, h2⟩
  go_wp2
  go_end0
  exact ⟨rfl, h1, h2⟩

set_option maxHeartbeats 400000 in
theorem zzload_any (b : Nat) (x : Int) (w : World) (ha : Atom w b x) :
    Calls Try.prog 9 #[.pointer (some ⟨b, 0, none⟩)] w fun e w' => e = .returned (.int .i64 x) ∧ w' = w := by
  go_enter Try.func9, Try.ntmps9
  go_wp2_with fail
  refine (load_any b 0 x w ha.1).mono ?_
  rintro e w' ⟨rfl, rfl⟩
  go_wp2
  go_ret
  exact ⟨rfl, rfl⟩

theorem bytes6_any (s : Int) (a : Option Addr) (n c : Nat) (hn : n ≤ maxLen) (w : World) : Calls Try.prog 6 #[.int .i64 s, .slice a n c] w fun e w' => IsBool e ∧ w' = w := by
  unfold maxLen at hn
  go_enter Try.func6, Try.ntmps6
  go_wp2
  all_goals (go_ret; exact ⟨⟨_, rfl⟩, rfl⟩)

theorem bytes10_any (s : Int) (a : Option Addr) (n c : Nat) (hn : n ≤ maxLen) (w : World) : Calls Try.prog 10 #[.int .i64 s, .slice a n c] w fun e w' => IsBool e ∧ w' = w := by
  unfold maxLen at hn
  go_enter Try.func10, Try.ntmps10
  go_wp2
  all_goals (go_ret; exact ⟨⟨_, rfl⟩, rfl⟩)
end Go.Proofs.Qxb6609049a

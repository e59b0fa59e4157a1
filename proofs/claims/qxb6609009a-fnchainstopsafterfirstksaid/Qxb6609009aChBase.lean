import Derived.Test.Qxb6609009aChAll
import Derived.WalkSpells
import Derived.LaidEqlPtr
import Derived.WalkLawsBesides
import Derived.Deep.QuietTactic
import Derived.BigQuiet
import Derived.RegionTactic
namespace Go.Proofs.Qxb6609009a
open Go.RowKit

theorem hidden {p : Prop} (h : p) : Hid p := h
def IsBoolC (e : Ending) : Prop := ∃ b, e = .returned (.bool b)

/-- a slice of strings: the elements ss lie, one cell each, behind the address -/
def StrRow (w : World) (ao : Option Addr) (ss : List ByteArray) : Prop :=
  ∀ k s, ss[k]? = some s → ∃ b off, ao = some ⟨b, off, none⟩ ∧ b < w.heap.size ∧ w.cell? ⟨b, off + k, none⟩ = some (.string s)

theorem StrRow.below {w w' : World} {ao : Option Addr} {ss : List ByteArray} (h : StrRow w ao ss) (hb : Below w.heap.size w w') : StrRow w' ao ss := by
  intro k b hk
  obtain ⟨g, off, h1, h2, h3⟩ := h k b hk
  exact ⟨g, off, h1, Nat.lt_of_lt_of_le h2 hb.size, (hb.cell (p := ⟨g, _, none⟩) h2).trans h3⟩

theorem stepB {w W W' : World} (h : Below w.heap.size w W) (h' : Below W.heap.size W W') : Below w.heap.size w W' := h.trans (h'.mono h.size)
theorem allocB (W : World) (o : Obj) : Below W.heap.size W (W.alloc o) := (Below.refl _ _).alloc (Nat.le_refl _) _

set_option maxHeartbeats 1000000 in
theorem bytes12_any (a0 : Option Addr) (n0 c0 : Nat) (ss : List ByteArray) (h0 : ss.length = n0) (b0 : n0 ≤ maxLen) (w : World) (l0 : StrRow w a0 ss) :
    Calls Try.prog 12 #[.slice a0 n0 c0] w fun e w' => IsBoolC e ∧ w' = w := by
  unfold maxLen at b0
  go_enter Try.func12, Try.ntmps12
  go_wp2
  · go_ret; exact ⟨⟨_, rfl⟩, rfl⟩
  go_loop [3, 4] (fun t i => ∃ (k : Nat) (q : Int), k ≤ n0 ∧ i = .int .i64 k ∧ t = .int .i64 q) (fun _ i => n0 - (intOf i).toNat)
  case atStart => exact ⟨0, _, Nat.zero_le _, rfl, rfl⟩
  case round =>
    obtain ⟨k, q, hk, rfl, rfl⟩ := hrel
    by_cases hlt : k < n0
    · obtain ⟨s0, hp⟩ : ∃ p, ss[k]? = some p := ⟨ss[k], by simp [h0, hlt]⟩
      obtain ⟨b, off, hao, hbs, e0⟩ := l0 k _ hp
      clear hp hbs
      subst hao
      go_wp2
      case roundEnd =>
        go_round
        case rel => exact ⟨k + 1, _, by omega, by go_num, rfl⟩
        case measure => simp [intOf]; omega
      all_goals (go_ret; exact ⟨⟨_, rfl⟩, rfl⟩)
    · go_wp2
      all_goals (go_ret; exact ⟨⟨_, rfl⟩, rfl⟩)

set_option maxHeartbeats 1000000 in
theorem bytes16_any (a0 : Option Addr) (n0 c0 : Nat) (kk : Int) (ss : List ByteArray) (h0 : ss.length = n0) (b0 : n0 ≤ maxLen) (w : World) (l0 : StrRow w a0 ss) :
    Calls Try.prog 16 #[.slice a0 n0 c0, .int .i64 kk] w fun e w' => IsBoolC e ∧ w' = w := by
  unfold maxLen at b0
  go_enter Try.func16, Try.ntmps16
  go_wp2
  · go_ret; exact ⟨⟨_, rfl⟩, rfl⟩
  go_loop [5, 6] (fun t i => ∃ (k : Nat) (q : Int), k ≤ n0 ∧ i = .int .i64 k ∧ t = .int .i64 q) (fun _ i => n0 - (intOf i).toNat)
  case atStart => exact ⟨0, _, Nat.zero_le _, rfl, rfl⟩
  case round =>
    obtain ⟨k, q, hk, rfl, rfl⟩ := hrel
    by_cases hlt : k < n0
    · obtain ⟨s0, hp⟩ : ∃ p, ss[k]? = some p := ⟨ss[k], by simp [h0, hlt]⟩
      obtain ⟨b, off, hao, hbs, e0⟩ := l0 k _ hp
      clear hp hbs
      subst hao
      go_wp2
      case roundEnd =>
        go_round
        case rel => exact ⟨k + 1, _, by omega, by go_num, rfl⟩
        case measure => simp [intOf]; omega
      all_goals (go_ret; exact ⟨⟨_, rfl⟩, rfl⟩)
    · go_wp2
      all_goals (go_ret; exact ⟨⟨_, rfl⟩, rfl⟩)

theorem neq_same (w : World) (a : Addr) : (binOp .neq 26 (.pointer (some a)) (.pointer (some a))).run Try.prog w = .ok (.bool false) w := by
  obtain ⟨i, hi, _⟩ : ∃ i, Try.prog.info? 32 = some i ∧ True := by
    have h : (Try.prog.info? 32).isSome = true := by kernel_rfl
    obtain ⟨i, hi⟩ := Option.isSome_iff_exists.1 h
    exact ⟨i, hi, trivial⟩
  have h : ∀ d : Nat, (Op.equalIn (d + 1) 26 (.pointer (some a)) (.pointer (some a))).run Try.prog w = .ok true w := fun d => by
    simp [Op.equalIn, run_underlying Try.underlying26, sizeOf, typeInfo, hi, run_sameAddr_same]
  simp only [binOp]
  simp [Op.equal, Op.maxDepth, h 9999]

set_option maxHeartbeats 1000000 in
/-- samePtrs on two slices that hold the same pointers -/
theorem same_any (a0 a1 : Option Addr) (n0 c0 c1 : Nat) (bs : List Nat) (h0 : bs.length = n0) (b0 : n0 ≤ 100000) (w : World) (l0 : Ptrs w a0 bs) (l1 : Ptrs w a1 bs) :
    Calls Try.prog 15 #[.slice a0 n0 c0, .slice a1 n0 c1] w fun e w' => e = .returned (.bool true) ∧ Below w.heap.size w w' := by
  go_enter Try.func15, Try.ntmps15
  go_wp2
  go_loopw [5] (fun i wr => ∃ (k : Nat), k ≤ n0 ∧ i = .int .i64 k ∧ Below w.heap.size w wr) (fun i _ => n0 - (intOf i).toNat)
  case atStart => exact ⟨0, Nat.zero_le _, rfl, Below.refl _ _⟩
  case round =>
    obtain ⟨k, hk, rfl, hB⟩ := hrel
    by_cases hlt : k < n0
    · obtain ⟨b, hp⟩ : ∃ p, bs[k]? = some p := ⟨bs[k], by simp [h0, hlt]⟩
      obtain ⟨g0, off0, hao0, hb0, e0⟩ := l0 k _ hp
      obtain ⟨g1, off1, hao1, hb1, e1⟩ := l1 k _ hp
      have e0' : wr.cell? ⟨g0, off0 + k, none⟩ = some (.pointer (some ⟨b, 0, none⟩)) := (hB.cell (p := ⟨g0, _, none⟩) hb0).trans e0
      have e1' : wr.cell? ⟨g1, off1 + k, none⟩ = some (.pointer (some ⟨b, 0, none⟩)) := (hB.cell (p := ⟨g1, _, none⟩) hb1).trans e1
      clear hp hb0 hb1 e0 e1
      subst hao0
      subst hao1
      have hne := fun W => neq_same W ⟨b, 0, none⟩
      go_wp2
      go_quiet (fail)
      go_wp2
      go_roundw
      case rel => exact ⟨k + 1, by omega, by go_num, below_drewN hB nq⟩
      case measure => simp [intOf]; omega
    · go_wp2
      go_ret
      exact ⟨rfl, hB⟩

theorem clamp_any (k : Int) (n : Nat) (w : World) : Calls Try.prog 17 #[.int .i64 k, .int .i64 n] w fun e w' => e = .returned (.int .i64 ((min k.toNat n : Nat) : Int)) ∧ w' = w := by
  by_cases h0 : k < 0
  · have e : ((min k.toNat n : Nat) : Int) = 0 := by omega
    rw [e]
    clear e
    go_enter Try.func17, Try.ntmps17
    go_wp2
    go_ret
    exact ⟨rfl, rfl⟩
  · by_cases h1 : (n : Int) < k
    · have e : ((min k.toNat n : Nat) : Int) = n := by omega
      rw [e]
      clear e
      go_enter Try.func17, Try.ntmps17
      go_wp2
      go_ret
      exact ⟨rfl, rfl⟩
    · have e : ((min k.toNat n : Nat) : Int) = k := by omega
      rw [e]
      clear e
      go_enter Try.func17, Try.ntmps17
      go_wp2
      go_ret
      exact ⟨rfl, rfl⟩
end Go.Proofs.Qxb6609009a

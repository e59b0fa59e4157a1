import Derived.Test.Qxb6609049aRaiseBase
import Derived.Deep.QuietTactic
import Derived.BigQuiet
import Derived.RegionTactic
namespace Go.Proofs.Qxb6609049a
open Go.RowKit

set_option maxHeartbeats 400000 in
theorem add_any (b off : Nat) (x y : Int) (w : World) (h : w.cell? ⟨b, off, none⟩ = some (.int .i64 x)) (f : w.frozen? ⟨b, off, none⟩ = false) :
    Calls Try.prog 26 #[.pointer (some ⟨b, off, none⟩), .int .i64 y] w fun e w' => e = .returned (.int .i64 (wrap64 (x + y))) ∧ w' = w.setCell ⟨b, off, none⟩ (.int .i64 (wrap64 (x + y))) := by
  have hl := run_call_add (P := Try.prog) Try.func28 (by kernel_rfl) (by kernel_rfl) (by kernel_rfl) .i64 (by kernel_rfl) (y := y) (s := wrap64 (x + y)) h f (by simp [go_sem, wrap64, IntKind.wrap_i64])
  go_enter Try.func26, Try.ntmps26
  go_wp2
  go_ret
  exact ⟨rfl, rfl⟩

/-- an integer cell of a block that may be written -/
def ICell (w : World) (b o : Nat) (x : Int) : Prop := w.cell? ⟨b, o, none⟩ = some (.int .i64 x) ∧ w.frozen? ⟨b, o, none⟩ = false
/-- a scheduler's three counters -/
def Sched (w : World) (b : Nat) (r s t : Int) : Prop := ICell w b 7 r ∧ ICell w b 15 s ∧ ICell w b 17 t

set_option maxHeartbeats 1000000 in
theorem newSched_any (r s t : Int) (w : World) :
    Calls Try.prog 11 #[.int .i64 r, .int .i64 s, .int .i64 t] w fun e w' => e = .returned (.pointer (some ⟨w.heap.size, 0, none⟩)) ∧ Sched w' w.heap.size r s t ∧ w.heap.size < w'.heap.size ∧ Below w.heap.size w w' := by
  go_enter Try.func11, Try.ntmps11
  go_wp2_with fail
  refine (store_any w.heap.size 7 (.int .i64 0) r _ ?c7 ?f7).mono ?_
  case c7 => simp
  case f7 => simp
  rintro e w' ⟨rfl, rfl⟩
  rw [World.setCell_alloc_at _ _ _ _ _ rfl]
  go_wp2_with fail
  refine (store_any w.heap.size 15 (.int .i64 0) s _ ?c14 ?f14).mono ?_
  case c14 => simp
  case f14 => simp
  rintro e w' ⟨rfl, rfl⟩
  rw [World.setCell_alloc_at _ _ _ _ _ rfl]
  go_wp2_with fail
  refine (store_any w.heap.size 17 (.int .i64 0) t _ ?c16 ?f16).mono ?_
  case c16 => simp
  case f16 => simp
  rintro e w' ⟨rfl, rfl⟩
  rw [World.setCell_alloc_at _ _ _ _ _ rfl]
  go_wp2
  go_ret
  exact ⟨rfl, ⟨⟨by simp, by simp⟩, ⟨by simp, by simp⟩, ⟨by simp, by simp⟩⟩, by simp, (Below.refl _ _).alloc (Nat.le_refl _) _⟩

end Go.Proofs.Qxb6609049a

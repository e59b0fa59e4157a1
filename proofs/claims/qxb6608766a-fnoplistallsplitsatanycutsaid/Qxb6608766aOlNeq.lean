import Derived.Test.Qxb6608766aOlBase
import Derived.Laws.StructEq
namespace Go.Proofs.Qxb6608766a
open Go.RowKit
theorem Try.elem22 : Try.prog.elem 22 = 24 := by kernel_rfl
theorem Try.size24 (w : World) : (sizeOf 24).run Try.prog w = .ok 1 w := by kernel_rfl

/-- where 's[p:]' begins -/
def cutAt (a : Option Addr) (c p : Nat) : Option Addr := if c = p then a else a.map (·.add p)

theorem slice_take (a : Option Addr) (n c p : Nat) (hp : p ≤ c) (w : World) : (Instr.slice 22 (.slice a n c) none (some (.int .i64 (p : Int))) none).run Try.prog w = .ok (.slice a p c) w := by
  rw [run_slice_h (P := Try.prog) w 22 a n c (by rw [Try.elem22]; exact Try.underlying22) .i64 (p : Int) (by omega) (by omega), Try.elem22, Try.size24]
  simp [Result.andThen, sliced, Addr.add]

theorem slice_drop (a : Option Addr) (n c p : Nat) (hp : p ≤ n) (w : World) : (Instr.slice 22 (.slice a n c) (some (.int .i64 (p : Int))) none none).run Try.prog w = .ok (.slice (cutAt a c p) (n - p) (c - p)) w := by
  rw [run_slice_l (P := Try.prog) w 22 a n c (by rw [Try.elem22]; exact Try.underlying22) .i64 (p : Int) (by omega) (by omega), Try.elem22, Try.size24]
  simp [Result.andThen, sliced, cutAt]

theorem Mat.take {w : World} {a : Option Addr} {xs : List (List Int)} (h : Mat w a xs) (p : Nat) : Mat w a (xs.take p) := by
  intro k q hq
  rw [List.getElem?_take] at hq
  split at hq
  · exact h k q hq
  · cases hq

theorem Mat.drop {w : World} {a : Option Addr} {xs : List (List Int)} {c : Nat} (h : Mat w a xs) (p : Nat) (hc : xs.length ≤ c) : Mat w (cutAt a c p) (xs.drop p) := by
  intro k q hq
  rw [List.getElem?_drop] at hq
  have hk := (List.getElem?_eq_some_iff.1 hq).1
  obtain ⟨b, off, A, c', rfl, h2, h3, h4⟩ := h (p + k) q hq
  refine ⟨b, off + p, A, c', ?_, h2, ?_, h4⟩
  · unfold cutAt; rw [if_neg (by omega)]; simp [Addr.add_lit]
  · rw [show off + p + k = off + (p + k) by omega]; exact h3

theorem Try.st34 : Try.prog.underlying 34 = some (.struct (Try.prog.fieldsOf 34)) := by kernel_rfl
theorem Try.held34 : Try.prog.stoodInHeld 34 = false := by kernel_rfl

theorem neq34 (z : Int) (w : World) : (binOp .neq 34 (.agg #[.int .u8 1, .bool false, .bool false, .int .i64 z, .string ⟨#[]⟩, .int .i64 0, .pointer none]) (.agg #[.int .u8 1, .bool false, .bool false, .int .i64 z, .string ⟨#[]⟩, .int .i64 0, .pointer none])).run Try.prog w = .ok (.bool false) w := by
  rw [run_neq_struct, run_equalIn_struct w 9999 34 _ _ Try.st34 Try.held34]
  simp [go_sem, Try.underlying34, run_equalIn_pointer_nil]
end Go.Proofs.Qxb6608766a

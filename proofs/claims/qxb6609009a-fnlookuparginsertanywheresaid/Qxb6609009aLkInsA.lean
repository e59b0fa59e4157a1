import Derived.Test.Qxb6609009aLkLawA
import Derived.Deep.RegionHeld3
namespace Go.Proofs.Qxb6609009a
open Go.RowKit

/-- where 's[p:]' begins -/
def cutAt (a : Option Addr) (c p : Nat) : Option Addr := if c = p then a else a.map (·.add (p * 2))

theorem Try.elem22 : Try.prog.elem 22 = 25 := by kernel_rfl
theorem Try.size25 (w : World) : (sizeOf 25).run Try.prog w = .ok 2 w := by kernel_rfl

theorem slice_take (a : Option Addr) (n c p : Nat) (hp : p ≤ c) (w : World) : (Instr.slice 22 (.slice a n c) none (some (.int .i64 (p : Int))) none).run Try.prog w = .ok (.slice a p c) w := by
  rw [run_slice_h (P := Try.prog) w 22 a n c (by rw [Try.elem22]; exact Try.underlying22) .i64 (p : Int) (by omega) (by omega), Try.elem22, Try.size25]
  simp [Result.andThen, sliced, Addr.add]

theorem slice_drop (a : Option Addr) (n c p : Nat) (hp : p ≤ n) (w : World) : (Instr.slice 22 (.slice a n c) (some (.int .i64 (p : Int))) none none).run Try.prog w = .ok (.slice (cutAt a c p) (n - p) (c - p)) w := by
  rw [run_slice_l (P := Try.prog) w 22 a n c (by rw [Try.elem22]; exact Try.underlying22) .i64 (p : Int) (by omega) (by omega), Try.elem22, Try.size25]
  simp [Result.andThen, sliced, cutAt]

theorem Lies.take {w : World} {a : Option Addr} {xs : List (ByteArray × ByteArray)} (h : Lies w a xs) (p : Nat) : Lies w a (xs.take p) := by
  intro k q hq
  rw [List.getElem?_take] at hq
  split at hq
  · exact h k q hq
  · cases hq

theorem Lies.drop {w : World} {a : Option Addr} {xs : List (ByteArray × ByteArray)} {c : Nat} (h : Lies w a xs) (p : Nat) (hc : xs.length ≤ c) : Lies w (cutAt a c p) (xs.drop p) := by
  intro k q hq
  rw [List.getElem?_drop] at hq
  have hk := (List.getElem?_eq_some_iff.1 hq).1
  obtain ⟨b, off, rfl, h2, h3, h4⟩ := h (p + k) q hq
  refine ⟨b, off + p * 2, ?_, h2, ?_, ?_⟩
  · unfold cutAt; rw [if_neg (by omega)]; simp [Addr.add_lit]
  · rw [show off + p * 2 + k * 2 = off + (p + k) * 2 by omega]; exact h3
  · rw [show off + p * 2 + k * 2 + 1 = off + (p + k) * 2 + 1 by omega]; exact h4

theorem cases4 (xs : List (ByteArray × ByteArray)) (p : Nat) (x0 x1 nm : ByteArray) : ∃ B0 B1 okB X0 X1 R0 R1 okR, Looks (xs.take p) x0 B0 B1 okB ∧ Looks (xs.take p ++ [(x0, x1)] ++ xs.drop p) x0 X0 X1 true ∧
    ((okB = true ∧ X0 = B0 ∧ X1 = B1) ∨ (okB = false ∧ X0 = x0 ∧ X1 = x1)) ∧ Looks xs nm R0 R1 okR ∧ ((x0.toList == nm.toList) = false → Looks (xs.take p ++ [(x0, x1)] ++ xs.drop p) nm R0 R1 okR) := by
  have hin : look [(x0, x1)] x0 = some (x0, x1) := by simp [look]
  have hR : (x0.toList == nm.toList) = false → look (xs.take p ++ [(x0, x1)] ++ xs.drop p) nm = look xs nm := by
    intro h
    have hno : look [(x0, x1)] nm = none := by simp [look, h]
    have e : look xs nm = look (xs.take p ++ xs.drop p) nm := by rw [List.take_append_drop]
    rw [e, look_append, look_append, look_append, hno]
    simp
  cases hA : look (xs.take p) x0 with
  | some r => exact ⟨r.1, r.2, true, r.1, r.2, _, _, _, ⟨by simp [hA, res], by simp [hA]⟩, ⟨by simp [look_append, hA, res], by simp [look_append, hA]⟩, .inl ⟨rfl, rfl, rfl⟩, ⟨rfl, rfl⟩, fun h => ⟨by rw [hR h]; rfl, by rw [hR h]⟩⟩
  | none => exact ⟨_, _, false, x0, x1, _, _, _, ⟨rfl, by simp [hA]⟩, ⟨by rw [look_append, look_append, hA, hin]; rfl, by rw [look_append, look_append, hA, hin]; rfl⟩, .inr ⟨rfl, rfl, rfl⟩, ⟨rfl, rfl⟩, fun h => ⟨by rw [hR h]; rfl, by rw [hR h]⟩⟩
end Go.Proofs.Qxb6609009a

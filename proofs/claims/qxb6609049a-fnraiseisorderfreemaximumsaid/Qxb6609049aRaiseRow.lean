import Derived.Test.Qxb6609049aRaiseBase
import Derived.ProofKit
import Derived.OpenShut
import Derived.ShutString
import Derived.ChangeOld
import Derived.Below
namespace Go.Proofs.Qxb6609049a
open Go.ChangeShapes Go.WideShapes Go.ChangeAt Go.RowKit

theorem own : ownKnob Try.prog.godebug = none := by kernel_rfl
theorem laidOut : laidOutB Try.prog = true := by kernel_rfl

theorem open_row {H : Type} {enc : TypeId × Value → H} {W : World} {base : Nat} {spare : Nat → Bool} {held : Bool} {a : Option Addr} {len cap : Nat} {d : DataW H} {p : List MemPlace}
    (h : DataW.Trod enc Try.prog W base spare held 22 (.slice a len cap) d p) : ∃ l, l.length = len ∧ len ≤ maxLen ∧ IntRow W a l := by
  obtain ⟨fuel, hf⟩ := h
  rcases open_ints Try.underlying22 Try.underlying2 (by kernel_rfl) hf with ⟨hcs, _⟩ | ⟨x, ln, c, zs, hcs, _, hl, hm, hz, _, hcell, hwz⟩
  · simp [Value.cells] at hcs
    obtain ⟨rfl, rfl, rfl⟩ := hcs
    exact ⟨[], rfl, Nat.zero_le _, fun k z h => by simp at h⟩
  · simp [Value.cells] at hcs
    obtain ⟨rfl, rfl, rfl⟩ := hcs
    have hlz : len ≤ zs.length := by rw [hz]; split <;> omega
    refine ⟨zs.take len, by simp; omega, by omega, ?_⟩
    intro k z hk
    have hlt : k < len := by
      have := (List.getElem?_eq_some_iff.1 hk).1
      simp at this
      omega
    rw [List.getElem?_take, if_pos hlt] at hk
    have ez : zs.getD k 0 = z := by simp [List.getD, hk]
    have e0 := hcell k (by omega)
    rw [ez] at e0
    obtain ⟨b, off, spot⟩ := x
    have hspot : spot = none := by simpa [Addr.add] using World.cell?_spot (hcell 0 (by omega))
    subst hspot
    rw [add_plain] at e0
    exact ⟨b, off, rfl, World.block_lt_of_cell? W _ e0, e0⟩
end Go.Proofs.Qxb6609049a

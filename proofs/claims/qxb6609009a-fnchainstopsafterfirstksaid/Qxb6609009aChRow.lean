import Derived.Test.Qxb6609009aChBase
import Derived.ProofKit
import Derived.ShutString
import Derived.ChangeOld
import Derived.Below
import Derived.Deep.Strs
namespace Go.Proofs.Qxb6609009a
open Go.ChangeShapes Go.WideShapes Go.ChangeAt Go.RowKit Go.Deep

theorem Try.ownCh : ownKnob Try.prog.godebug = none := by kernel_rfl
theorem Try.laidOutCh : laidOutB Try.prog = true := by kernel_rfl

theorem open_row {H : Type} {enc : TypeId × Value → H} {W : World} {base : Nat} {spare : Nat → Bool} {held : Bool} {a : Option Addr} {len cap : Nat} {d : DataW H} {p : List MemPlace}
    (h : DataW.Trod enc Try.prog W base spare held 38 (.slice a len cap) d p) : ∃ ss, ss.length = len ∧ len ≤ maxLen ∧ StrRow W a ss := by
  obtain ⟨fuel, hf⟩ := h
  rcases open_strs Try.underlying38 Try.underlying9 (by kernel_rfl) hf with ⟨hcs, _⟩ | ⟨x, l, c, m, Sx, hcs, _, hl, hm, hmm, _, hx⟩
  · simp [Value.cells] at hcs
    obtain ⟨rfl, rfl, rfl⟩ := hcs
    exact ⟨[], rfl, Nat.zero_le _, fun k p h => by simp at h⟩
  · simp [Value.cells] at hcs
    obtain ⟨rfl, rfl, rfl⟩ := hcs
    have hlm : len ≤ m := by rw [hmm]; split <;> omega
    refine ⟨(List.range len).map Sx, by simp, by omega, ?_⟩
    intro k s hs
    have hk : k < len := by have := (List.getElem?_eq_some_iff.1 hs).1; simpa using this
    have es : Sx k = s := by simpa [hk] using hs
    subst es
    have e0 := (hx k (by omega)).1
    obtain ⟨b, off, spot⟩ := x
    have hspot : spot = none := by simpa [Addr.add] using World.cell?_spot (hx 0 (by omega)).1
    subst hspot
    rw [add_plain] at e0
    exact ⟨b, off, rfl, World.block_lt_of_cell? W _ e0, e0⟩
end Go.Proofs.Qxb6609009a

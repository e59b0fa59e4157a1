import Derived.Test.Qxb6609009aLkBase
import Derived.ProofKit
import Derived.ShutString
import Derived.ChangeOld
import Derived.Below
import Derived.Deep.SlicePairs
namespace Go.Proofs.Qxb6609009a
open Go.ChangeShapes Go.WideShapes Go.ChangeAt Go.RowKit Go.Deep
open Go.ChangeMaps (open_string shut_string)

theorem Try.own : ownKnob Try.prog.godebug = none := by kernel_rfl
theorem Try.laidOut : laidOutB Try.prog = true := by kernel_rfl
theorem Try.cells25 : Try.prog.cellsOf 25 = 2 := by kernel_rfl

theorem open_pairs {H : Type} {enc : TypeId × Value → H} {W : World} {base : Nat} {spare : Nat → Bool} {held : Bool} {a : Option Addr} {len cap : Nat} {d : DataW H} {p : List MemPlace}
    (h : DataW.Trod enc Try.prog W base spare held 22 (.slice a len cap) d p) : ∃ xs, xs.length = len ∧ len ≤ maxLen ∧ len ≤ cap ∧ Lies W a xs := by
  obtain ⟨fuel, hf⟩ := h
  rcases open_slice_pairs Try.underlying22 Try.underlying25 Try.cells25 rfl rfl (by kernel_rfl) (by kernel_rfl) hf with ⟨hcs, _⟩ | ⟨x, l, c, m, n, V0, V1, D0, D1, P0, P1, hcs, _, hl, hm, hmm, _, hx⟩
  · simp [Value.cells] at hcs
    obtain ⟨rfl, rfl, rfl⟩ := hcs
    exact ⟨[], rfl, Nat.zero_le _, Nat.le_refl _, fun k p h => by simp at h⟩
  · simp [Value.cells] at hcs
    obtain ⟨rfl, rfl, rfl⟩ := hcs
    have hlm : len ≤ m := by rw [hmm]; split <;> omega
    have each : ∀ i, i < len → ∃ q : ByteArray × ByteArray, W.cell? (x.add (i * 2)) = some (.string q.1) ∧ W.cell? (x.add (i * 2 + 1)) = some (.string q.2) := by
      intro i hi
      obtain ⟨h0, h1, h2, h3⟩ := hx i (by omega)
      obtain ⟨s0, e0, _⟩ := DataW.trod_string Try.underlying9 h2
      obtain ⟨s1, e1, _⟩ := DataW.trod_string Try.underlying9 h3
      simp at e0 e1
      exact ⟨(s0, s1), by rw [h0, e0], by rw [h1, e1]⟩
    obtain ⟨f, hf⟩ := choose_lt each
    refine ⟨(List.range len).map f, by simp, by omega, hl, ?_⟩
    intro k p hp
    have hk : k < len := by have := (List.getElem?_eq_some_iff.1 hp).1; simpa using this
    have ep : f k = p := by simpa [hk] using hp
    subst ep
    obtain ⟨e0, e1⟩ := hf k hk
    obtain ⟨b, off, spot⟩ := x
    have hspot : spot = none := by simpa [Addr.add] using World.cell?_spot (hf 0 (by omega)).1
    subst hspot
    rw [add_plain] at e0 e1
    exact ⟨b, off, rfl, World.block_lt_of_cell? W _ e0, e0, by rw [Nat.add_assoc]; exact e1⟩
end Go.Proofs.Qxb6609009a

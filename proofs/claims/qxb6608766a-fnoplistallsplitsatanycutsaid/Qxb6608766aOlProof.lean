import Derived.Test.Qxb6608766aOlLaw
import Derived.ProofKit
import Derived.ShutString
import Derived.ChangeOld
import Derived.Below
import Derived.Deep.Matrix
import Derived.OpenShut
import Derived.Test.Qxb6608766aChecked
namespace Go.Proofs.Qxb6608766a
open Go.ChangeShapes Go.WideShapes Go.ChangeAt Go.RowKit Go.Deep

theorem Try.ownOl : ownKnob Try.prog.godebug = none := by kernel_rfl
theorem Try.laidOutOl : laidOutB Try.prog = true := by kernel_rfl

theorem open_mat {H : Type} {enc : TypeId × Value → H} {W : World} {base : Nat} {held : Bool} {a : Option Addr} {len cap : Nat} {d : DataW H} {p : List MemPlace}
    (h : DataW.Trod enc Try.prog W base (fun _ => true) held 22 (.slice a len cap) d p) : ∃ ms : List (List Int), ms.length = len ∧ len ≤ cap ∧ len ≤ maxLen ∧ Mat W a ms ∧ ∀ (k : Nat) (r : List Int), ms[k]? = some r → r.length ≤ maxLen := by
  obtain ⟨fuel, hf⟩ := h
  rcases open_int_rows Try.underlying22 Try.underlying24 Try.underlying3 (by kernel_rfl) (by kernel_rfl) hf with ⟨hcs, _⟩ | ⟨x, l, c, A, L, C, Z, hcs, _, hl, hm, _, hx⟩
  · simp [Value.cells] at hcs
    obtain ⟨rfl, rfl, rfl⟩ := hcs
    exact ⟨[], rfl, Nat.zero_le _, Nat.zero_le _, fun k p h => by simp at h, fun k p h => by simp at h⟩
  · simp [Value.cells] at hcs
    obtain ⟨rfl, rfl, rfl⟩ := hcs
    have key : ∀ (k : Nat) (r : List Int), ((List.range len).map fun r => (Z r).take (L r))[k]? = some r → k < len ∧ r = (Z k).take (L k) ∧ r.length = L k := by
      intro k r hr
      have hk : k < len := by have := (List.getElem?_eq_some_iff.1 hr).1; simpa using this
      have es : (Z k).take (L k) = r := by simpa [hk] using hr
      obtain ⟨_, h2, _, h4, _⟩ := hx k (by omega)
      subst es
      exact ⟨hk, rfl, by rw [List.length_take]; omega⟩
    refine ⟨(List.range len).map fun r => (Z r).take (L r), by simp, hl, by omega, ?_, ?_⟩
    · intro k r hr
      obtain ⟨hk, rfl, hlen⟩ := key k r hr
      obtain ⟨e0, h2, h3, h4, _, h6, h7⟩ := hx k (by omega)
      obtain ⟨b, off, spot⟩ := x
      have hspot : spot = none := by simpa [Addr.add] using World.cell?_spot (hx 0 (by omega)).1
      subst hspot
      rw [add_plain] at e0
      refine ⟨b, off, A k, C k, rfl, World.block_lt_of_cell? W _ e0, by rw [hlen]; exact e0, ?_⟩
      intro j z hz
      have hj : j < L k := by have := (List.getElem?_eq_some_iff.1 hz).1; omega
      cases hA : A k with
      | none => have := h6 hA; omega
      | some a' =>
        have e1 := (h7 a' hA).2 j (by omega)
        obtain ⟨b', off', spot'⟩ := a'
        have hspot' : spot' = none := by simpa [Addr.add] using World.cell?_spot ((h7 _ hA).2 0 (by omega))
        subst hspot'
        rw [add_plain] at e1
        refine ⟨b', off', rfl, World.block_lt_of_cell? W _ e1, ?_⟩
        rw [e1]
        rw [List.getElem?_take, if_pos hj] at hz
        simp [List.getD, hz]
    · intro k r hr
      obtain ⟨hk, _, hlen⟩ := key k r hr
      obtain ⟨_, h2, h3, _⟩ := hx k (by omega)
      omega

set_option maxRecDepth 100000 in
theorem lifted3 (os : Os) (started : os.Started) (H : Type) (enc : TypeId × Value → H) :
    ReturnsInHanded {} Try.checked os 3 .any (Rows.fnOpListAllSplitsAtAnyCutSpec.pre6 enc Try.prog Try.f3 Rows.fnOpListAllSplitsAtAnyCutRow.domain false) (Rows.fnOpListAllSplitsAtAnyCutSpec.post enc Try.prog Try.f3 false true false false) := by
  refine returnsInHanded_of_change (C := Try.checked) Try.ownOl started (by kernel_rfl) Try.func3
    (ChangeSpec.witness6 (enc := enc) (C := Try.checked) false ⟨#[], #[.slice none 0 0, .int .i64 0], []⟩ 8 (by kernel_rfl) (by kernel_rfl) (by kernel_rfl) (by kernel_rfl)) ?_
  intro W base args ds gs before hval0 hW hcnd _
  have hval : ∀ (j : Nat) t v, Try.f3.params[j]? = some t → args[j]? = some v → Value.okWide Try.prog W .any base t v := hval0
  have hW' := hW
  obtain ⟨p, q, hA0, hV, rfl, hfz, hnd⟩ := hW
  have hA : DataW.TrodAll enc Try.prog W 0 (fun _ => true) true Try.f3.params.toList args.toList ds p := hA0
  rw [Try.params3] at hA hval
  obtain ⟨v0, vs0, d0, ds0, p0, q0, hargs, rfl, rfl, h0, r0⟩ := trodAll_cons hA
  obtain ⟨v1, vs1, d1, ds1, p1, q1, rfl, rfl, rfl, h1, r1⟩ := trodAll_cons r0
  obtain ⟨rfl, rfl, rfl⟩ := trodAll_nil r1
  obtain rfl : args = #[v0, v1] := by cases args; simp_all
  obtain ⟨rfl, rfl⟩ := trodVars_none hV
  obtain ⟨a0, len0, cap0, rfl⟩ := okWide_slice Try.underlying22 (hval 0 22 v0 rfl rfl)
  have k0 := h0
  have lt0 : ∀ x ∈ p0, x.block < W.heap.size := by obtain ⟨m, hm⟩ := k0; exact DataW.trod_lt m _ _ _ hm
  obtain ⟨ms, lx, cx, bx, Lx, rx⟩ := open_mat h0
  obtain ⟨i1, rfl, rfl, rfl, w1⟩ := open_int Try.underlying3 (hval 1 3 v1 rfl rfl) h1
  clear hA0 hval0
  refine (law3 a0 len0 cap0 i1 ms lx cx bx W Lx rx).mono fun e W' ⟨he, bel⟩ => ?_
  subst he
  exact ⟨_, rfl, _, _, _, [], _, [], hW', trodAll_mk1 (shut_bool Try.underlying4 _), (trodAll_cons_mk (Below.trod Try.laidOutOl (by kernel_rfl) (of_decide_eq_true (by kernel_rfl)) k0 bel lt0) (trodAll_cons_mk (shut_int Try.underlying3 w1) trodAll_mk0)), rfl, bel.frame _, fun h => by cases h⟩

theorem over3 : Rows.fnOpListAllSplitsAtAnyCutRow.holds Try.pinned (OpenSpec.ofChange Rows.fnOpListAllSplitsAtAnyCutSpec) :=
  OpenClaim.holds_of_wide 3 Try.f3 rfl rfl rfl rfl rfl rfl rfl ⟨rfl, rfl, rfl, rfl, rfl⟩ rfl rfl rfl rfl rfl (by kernel_rfl) Try.func3 (by kernel_rfl)
    (of_decide_eq_true (by kernel_rfl)) (by unfold Func.isWrapper; first | (rw [if_pos (by decide +kernel)]; kernel_rfl) | (rw [if_neg (by decide +kernel)]; exact ⟨rfl, rfl⟩))
    (fun os started H enc _ => lifted3 os started H enc)

theorem fnOpListAllSplitsAtAnyCut_proved : Rows.FnOpListAllSplitsAtAnyCutSaid := over3
end Go.Proofs.Qxb6608766a

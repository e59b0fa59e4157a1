import Derived.Test.Qxb6609009aChBase
namespace Go.Proofs.Qxb6609009a
open Go.RowKit

theorem IsChain.mono {n₀ n₁ : Nat} {W : World} (h : n₀ ≤ n₁) : ∀ {p : Option Addr} {bs : List Nat}, IsChain n₀ W p bs → IsChain n₁ W p bs
  | _, [], hl => hl
  | _, _ :: _, ⟨q, hp, hb, hq, hr⟩ => ⟨q, hp, by omega, hq, IsChain.mono h hr⟩

theorem IsChain.later {W W' : World} {p : Option Addr} {bs : List Nat} (h : IsChain W.heap.size W p bs) (hb : Below W.heap.size W W') : IsChain W'.heap.size W' p bs := (h.below hb).mono hb.size

theorem IsChain.store {n₀ B o : Nat} {W : World} {v : Value} : ∀ {p : Option Addr} {bs : List Nat}, (∀ b ∈ bs, B < b) → IsChain n₀ W p bs → IsChain n₀ (W.setCell ⟨B, o, none⟩ v) p bs
  | _, [], _, hl => hl
  | _, b :: _, hne, ⟨q, hp, hb, hq, hr⟩ => ⟨q, hp, hb, (World.cell?_setCell_other _ _ _ _ (by
      intro e
      have h1 := hne b (by simp)
      have h2 : B = b := congrArg Addr.block e
      omega)).trans hq, IsChain.store (fun x hx => hne x (by simp [hx])) hr⟩

theorem IsChain.head {n₀ : Nat} {W : World} {p : Option Addr} {bs : List Nat} (h : IsChain n₀ W p bs) : p = bs.head?.map fun b => ⟨b, 0, none⟩ := by
  cases bs with
  | nil => exact h
  | cons b t => obtain ⟨q, hp, _⟩ := h; exact hp

/-- what buildChain has made when k names are still to come: the row in block B, its cells from k on pointing to the chain bs that begins at p -/
def Built (w wr : World) (n k : Nat) (p : Option Addr) : Prop :=
  ∃ (cur : Array Value) (bs : List Nat), wr.heap[w.heap.size]? = some (.cells cur 26 (0, 0)) ∧ cur.size = n ∧ bs.length + k = n ∧ (∀ b ∈ bs, w.heap.size < b) ∧ IsChain wr.heap.size wr p bs ∧
    (∀ j b, bs[j]? = some b → cur[k + j]? = some (ptr b)) ∧ Below w.heap.size w wr

theorem Built.size {w wr : World} {n k : Nat} {p : Option Addr} (h : Built w wr n k p) : w.heap.size < wr.heap.size := by
  obtain ⟨cur, bs, h1, _⟩ := h
  exact (Array.getElem?_eq_some_iff.1 h1).1

theorem Built.cellAt {w wr : World} {n k : Nat} {p : Option Addr} (h : Built w wr n (k + 1) p) : (∃ v, wr.cell? ⟨w.heap.size, k, none⟩ = some v) ∧ wr.frozen? ⟨w.heap.size, k, none⟩ = false := by
  obtain ⟨cur, bs, h1, h2, h3, _⟩ := h
  refine ⟨⟨cur[k]'(by omega), ?_⟩, frozen_of_row wr _ _ cur 26 h1⟩
  rw [cell_of_row wr _ _ cur 26 (0, 0) h1]
  simp

theorem Built.step {w wr : World} {n k : Nat} {p : Option Addr} {v0 v1 v2 v3 v4 v6 : Value} (h : Built w wr n (k + 1) p) :
    Built w ((wr.setCell ⟨w.heap.size, k, none⟩ (.pointer (some ⟨wr.heap.size, 0, none⟩))).alloc (.cells #[v0, v1, v2, v3, v4, .pointer p, v6] 32)) n k (some ⟨wr.heap.size, 0, none⟩) := by
  obtain ⟨cur, bs, h1, h2, h3, h4, h5, h6, h7⟩ := h
  have hlt : w.heap.size < wr.heap.size := (Array.getElem?_eq_some_iff.1 h1).1
  refine ⟨cur.setIfInBounds k (.pointer (some ⟨wr.heap.size, 0, none⟩)), wr.heap.size :: bs, ?_, by simpa using h2, by simp; omega, ?_, ?_, ?_, ?_⟩
  · rw [Below.heap_alloc _ _ _ (by simpa using hlt)]
    exact heap_setCell_same wr _ k cur 26 _ h1
  · intro b hb
    rcases List.mem_cons.1 hb with rfl | hb
    · exact hlt
    · exact h4 b hb
  · have hs : (wr.setCell ⟨w.heap.size, k, none⟩ (.pointer (some ⟨wr.heap.size, 0, none⟩))).heap.size = wr.heap.size := by simp
    refine ⟨p, rfl, by simp, ?_, ?_⟩
    · rw [World.cell?_alloc_at _ _ _ _ hs.symm]
      rfl
    · have h5' := h5.store (B := w.heap.size) (o := k) (v := .pointer (some ⟨wr.heap.size, 0, none⟩)) h4
      exact (h5'.mono (by rw [hs]; exact Nat.le_refl _)).later (allocB _ _)
  · intro j b hb
    cases j with
    | zero =>
      simp at hb
      subst hb
      rw [Nat.add_zero, Array.getElem?_setIfInBounds_self_of_lt (by omega)]
      rfl
    | succ j =>
      have := h6 j b (by simpa using hb)
      rw [Array.getElem?_setIfInBounds_ne (by omega), show k + (j + 1) = k + 1 + j by omega]
      exact this
  · exact (h7.setCell (p := ⟨w.heap.size, k, none⟩) (Nat.le_refl _) _).alloc (by simp; omega) _

theorem Built.done {w wr : World} {n : Nat} {p : Option Addr} (h : Built w wr n 0 p) : ∃ bs : List Nat, bs.length = n ∧ IsChain wr.heap.size wr p bs ∧ Ptrs wr (some ⟨w.heap.size, 0, none⟩) bs ∧ Below w.heap.size w wr := by
  obtain ⟨cur, bs, h1, h2, h3, h4, h5, h6, h7⟩ := h
  refine ⟨bs, by omega, h5, fun k b hk => ⟨_, 0, rfl, (Array.getElem?_eq_some_iff.1 h1).1, ?_⟩, h7⟩
  rw [cell_of_row wr _ _ cur 26 (0, 0) h1]
  exact h6 k b hk

theorem Built.start {w wr : World} {n : Nat} {cells : List Value} (h : wr.ownsRow w.heap.size 26 1 (.slice (some ⟨w.heap.size, 0, none⟩) n n) n cells) (hb : Below w.heap.size w wr) : Built w wr n n none := by
  rcases h.2 with ⟨h', _⟩ | ⟨g', cap', cur, h', _, hg, _, _, hcs, _⟩
  · simp at h'
  · simp only [Value.slice.injEq, Option.some.injEq, Addr.mk.injEq, and_true, true_and] at h'
    obtain ⟨rfl, rfl⟩ := h'
    exact ⟨cur, [], hg, by omega, by simp, by simp, rfl, fun j b hj => by simp at hj, hb⟩

set_option maxHeartbeats 1000000 in
theorem build_any (a0 : Option Addr) (n c : Nat) (ss : List ByteArray) (h0 : ss.length = n) (b0 : n ≤ 100000) (w : World) (l0 : StrRow w a0 ss) :
    Calls Try.prog 13 #[.slice a0 n c] w fun e w' => ∃ (bs : List Nat) (p : Option Addr), e = .returned (.slice (some ⟨w.heap.size, 0, none⟩) n n) ∧ bs.length = n ∧ IsChain w'.heap.size w' p bs ∧ Ptrs w' (some ⟨w.heap.size, 0, none⟩) bs ∧ Below w.heap.size w w' := by
  obtain ⟨i0, hi, hz0, hz1, hz2⟩ := info_parts Try.info26
  go_enter Try.func13, Try.ntmps13
  go_wp2_with (at_make; refine wpList_make_full _ rfl _ _ 40 rfl w.heap.size 26 i0 _ 1 Try.underlying40 hi hz0 hz1 _ _ _ _ n rfl rfl rfl rfl ?c1 ?c2 ?c3 ?_)
  case c1 => rw [hz2]; omega
  case c2 => unfold maxLen; omega
  case c3 => exact Nat.le_refl _
  intro w1 hown hgrow
  have hF := Built.start hown ((Below.refl _ _).grown hgrow (Nat.le_refl _) (by simp))
  clear hown hgrow
  go_wp2
  go_loopw [4, 5] (fun nx i wr => ∃ (k : Nat) (q : Int) (p : Option Addr), k ≤ n ∧ q = (k : Int) - 1 ∧ i = .int .i64 q ∧ nx = .pointer p ∧ Built w wr n k p) (fun _ i _ => (intOf i + 1).toNat)
  case atStart => exact ⟨n, _, none, Nat.le_refl _, rfl, rfl, rfl, hF⟩
  case round =>
    clear hF
    obtain ⟨k, q, p, hk, hq, rfl, rfl, hF⟩ := hrel
    cases k with
    | zero =>
      have hq' : q = -1 := by omega
      clear hq
      subst hq'
      obtain ⟨bs, g1, g2, g3, g4⟩ := hF.done
      clear hF
      go_wp2
      go_ret
      exact ⟨bs, p, rfl, g1, g2, g3, g4⟩
    | succ k =>
      have hq' : q = (k : Int) := by omega
      clear hq
      subst hq'
      obtain ⟨s, hp⟩ : ∃ p, ss[k]? = some p := ⟨ss[k]'(by omega), by simp⟩
      obtain ⟨b, off, hao, hbs, e0⟩ := l0 k _ hp
      have hB := hF.choose_spec.choose_spec.2.2.2.2.2.2
      have e0' : wr.cell? ⟨b, off + k, none⟩ = some (.string s) := (hB.cell (p := ⟨b, _, none⟩) hbs).trans e0
      obtain ⟨⟨v, d0⟩, f0⟩ := hF.cellAt
      have hsz := hF.size
      have hkn : (k : Int) < (n : Int) := by omega
      clear e0 hp hB
      subst hao
      go_wp2
      have hF' := hF.step (v0 := .int .i64 1) (v1 := .int .i64 1) (v2 := .string s) (v3 := .slice none 0 0) (v4 := .string ⟨#[]⟩) (v6 := .nilIface)
      go_roundw
      case rel => exact ⟨k, _, _, by omega, rfl, rfl, rfl, hF'⟩
      case measure => simp [intOf]
end Go.Proofs.Qxb6609009a

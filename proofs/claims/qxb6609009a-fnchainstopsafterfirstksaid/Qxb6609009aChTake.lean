import Derived.Test.Qxb6609009aChAll
namespace Go.Proofs.Qxb6609009a
open Go.RowKit Go.Shelf
attribute [local go_sem] Oper.semAt_some

theorem Boxed.put {W : World} {B l : Nat} {t : TypeId} {v : Value} {o : Obj} (o' : Obj) (h : Boxed W B t v) (hl : W.heap[l]? = some o) (ho : o.isCells = false) : Boxed (W.putObj l o') B t v := by
  refine h.kept (grownBy_putObj' W l o') fun e => ?_
  obtain rfl : B = l := by simpa using e
  rw [show W.heap[B]? = _ from h] at hl
  cases hl
  cases ho

theorem append_box {W w1 : World} {base Bo B m : Nat} {t : TypeId} {v v' u : Value} {xs : List Value} {tmp : Obj} (hr : W.ownsRow base 26 1 v m xs) (hgrow : (W.alloc tmp).grownBy w1 v.ownBlock) (hB : B < base) (hne : B ≠ Bo) (h : Boxed W B t u) :
    Boxed (w1.setCell ⟨Bo, 0, none⟩ v') B t u := by
  refine ((h.alloc tmp).kept hgrow fun e => ?_).kept (grownBy_setCell' w1 Bo v') (by simpa using hne)
  have := (hr.lt B e.symm).1
  omega

theorem take_of_prefix {l bs : List Nat} {b K : Nat} (h : l ++ [b] <+: bs) (hk : l.length = K) : bs.take K = l := by
  obtain ⟨r, rfl⟩ := h
  rw [List.append_assoc, ← hk]
  exact List.take_left

set_option maxRecDepth 100000 in
set_option maxHeartbeats 2000000 in
theorem chainTake_in (F : Fence) (n : Nat) (h18 : F.fn 18) (h19 : F.fn 19) (h20 : F.fn 20) (hro : F.round = none) (hn : 3 ≤ n) (p0 : Option Addr) (k : Int) (bs : List Nat) (hlen : bs.length ≤ 100000) (w : World) (hL : IsChain w.heap.size w p0 bs) :
    CallsIn F n Try.prog 18 #[.pointer p0, .int .i64 k] w fun e W' => ∃ ao cap, e = .returned (.slice ao (bs.take k.toNat).length cap) ∧ Ptrs W' ao (bs.take k.toNat) ∧ Below w.heap.size w W' := by
  obtain ⟨i0, hi, hz0, hz1, hz2⟩ := info_parts Try.info26
  have h1 : 1 ≤ n := by omega
  refine callsIn_of_wp_marks Try.func18 rfl h18 ?_ hro
  simp only [Try.ntmps18, List.size_toArray, List.length_cons, List.length_nil, Nat.reduceAdd, Nat.reduceSub, Array.replicate_succ, Array.replicate_zero, List.push_toArray, List.append_toArray, List.nil_append, List.cons_append]
  gi_wp2_with (gi_at_call 19; refine (chain_in F (n - 1) h19 hro _ _).mono ?_; rintro e w' ⟨rfl, rfl⟩)
  have bK := Boxed.new w 3 (.int .i64 k)
  have bO := Boxed.new (w.alloc (.cells #[.int .i64 k] 3)) 40 (.slice none 0 0)
  have bN := Boxed.new ((w.alloc (.cells #[.int .i64 k] 3)).alloc (.cells #[.slice none 0 0] 40)) 26 (.pointer p0)
  rw [World.size_alloc] at bO
  rw [World.size_alloc, World.size_alloc] at bN
  have hB0 : Below w.heap.size w (((w.alloc (.cells #[.int .i64 k] 3)).alloc (.cells #[.slice none 0 0] 40)).alloc (.cells #[.pointer p0] 26)) := (((Below.refl _ w).alloc (Nat.le_refl _) _).alloc (by simp) _).alloc (by simp; omega) _
  refine wpIn_rangeChain hro (by omega) (Bt := w.heap.size + 1 + 1) (n₀ := w.heap.size) (by omega) rfl h20 rfl bN (hL.below hB0)
    (fun pre W => Col w (w.heap.size + 1) (w.heap.size + 3) pre W ∧ Boxed W w.heap.size 3 (.int .i64 k) ∧ pre.length ≤ k.toNat ∧ w.heap.size + 3 ≤ W.heap.size)
    (fun c pre W => c = .exit 0 ∧ ∃ l b, pre = l ++ [b] ∧ Col w (w.heap.size + 1) (w.heap.size + 3) l W ∧ l.length = k.toNat)
    (fun s W o h => ⟨h.1.alloc o, h.2.1.alloc o, h.2.2.1, by have := h.2.2.2; simp; omega⟩)
    (fun s W l o o' hl ho hc h => ⟨h.1.put o' (by simp at hl; omega) (by simp at hl; omega) ho hc, Boxed.put o' h.2.1 ho hc, h.2.2.1, by simpa using h.2.2.2⟩)
    (fun c s W l o o' hl ho hc h => by
      obtain ⟨hc1, l', b, e, hcol, hk⟩ := h
      exact ⟨hc1, l', b, e, hcol.put o' (by simp at hl; omega) (by simp at hl; omega) ho hc, hk⟩)
    (fun s W v h => ⟨h.1.store (by omega) (by omega) (by omega) v, h.2.1.kept (grownBy_setCell' W _ v) (by simp; omega), h.2.2.1, by simpa using h.2.2.2⟩)
    ⟨⟨⟨_, bO.alloc _, World.ownsRow_nil _ _ _ _⟩, hB0⟩, (bK.alloc _).alloc _, Nat.zero_le _, by simp⟩
    (fun b => { tmps := #[.pointer p0, .int .i64 k, undef, .pointer (some ⟨w.heap.size, 0, none⟩), .slice none 0 0, .pointer (some ⟨w.heap.size + 1, 0, none⟩), .pointer (some ⟨b, 0, none⟩), .pointer p0, .func (.func 20) #[] #[.pointer (some ⟨w.heap.size + 1 + 1, 0, none⟩)], .pointer (some ⟨b, 0, none⟩), undef, undef, undef, undef, undef, undef, undef, undef, undef], defers := [] }) ?assign ?body ?done ?stop
  case assign =>
    intro l x W K hK
    gi_wp2
    exact hK
  case body =>
    rintro l pre b W ⟨⟨⟨v, hv, hrow⟩, hB⟩, hbk, hpk, hsz⟩ hpre
    have hc := hv.cell
    have hck := hbk.cell
    have hpl : pre.length < bs.length := by have := hpre.length_le; simp at this; omega
    obtain ⟨ao, cp, hve⟩ : ∃ ao cp, v = .slice ao pre.length cp := by
      obtain ⟨ao, cp, e, _, _⟩ := ptrs_of_owns hrow
      exact ⟨ao, cp, e⟩
    rw [hve] at hc
    by_cases hge : k ≤ (pre.length : Int)
    · gi_wp2
      exact ⟨KeepsFrom.refl _ _, rfl, pre, b, rfl, ⟨⟨v, hv, hrow⟩, hB⟩, by omega⟩
    · rw [hve] at hrow hv
      gi_wp2_with (gi_at_builtin; refine wpListIn_append_own _ rfl _ _ 40 rfl (w.heap.size + 3) 26 i0 (.pointer none) 1 8 Try.underlying40 hi hz0 hz1 hz2 rfl (by decide) _ _ _ rfl (hrow.alloc _) ⟨W.heap.size, 0, none⟩ 1 1 [.pointer (some ⟨b, 0, none⟩)] rfl rfl (cell_one_new _ _ _) (by simp [Value.oneCell']) (by unfold maxLen; omega) (by omega) (by simp; omega) ?_; intro v' w1 hown' hgrow _; obtain ⟨g', cap', rfl⟩ := ownsRow_succ hown'; obtain ⟨hv1, hcol, hko, hkp⟩ := Col.append (Bt := w.heap.size + 1 + 1) hv hrow hB (by omega) (by omega) hsz (by omega) (by omega) hown' hgrow; have hc1 := hv1.cell; have hf1 := hv1.frozen; have hbk2 := append_box (v' := .slice (some ⟨g', 0, none⟩) (pre.length + 1) cap') (Bo := w.heap.size + 1) hrow hgrow (by omega) (by omega) hbk)
      exact ⟨hko.from _, hkp, hcol, hbk2, by simp; omega, by have := hko.size; omega⟩
  case done =>
    rintro D W hD ⟨⟨⟨v, hv, hrow⟩, hB⟩, hbk, hpk, hsz⟩ hK
    have hc := hv.cell
    gi_wp2
    have e : bs.take k.toNat = bs := List.take_of_length_le hpk
    rw [e]
    obtain ⟨ao, cap, rfl, _, hp⟩ := ptrs_of_owns (ownsRow_putObj hrow (.deferred none) hK rfl)
    refine ⟨by simp, .inl ⟨_, _, rfl, run_takeDeferred hK, ?_⟩⟩
    exact ⟨_, results_tmp rfl _ _ _, ao, cap, rfl, hp, hB.trans (belowK_b (w := w) (Nat.le_refl _) W D _ _ (by simp at hD; omega) hK rfl rfl)⟩
  case stop =>
    rintro D c pre W hD hpre ⟨rfl, l, b, rfl, ⟨⟨v, hv, hrow⟩, hB⟩, hk⟩ hK
    have hc := hv.cell
    gi_wp2
    rw [take_of_prefix hpre hk]
    obtain ⟨ao, cap, rfl, _, hp⟩ := ptrs_of_owns (ownsRow_putObj hrow (.deferred none) hK rfl)
    refine ⟨by simp, .inl ⟨_, _, rfl, run_takeDeferred hK, ?_⟩⟩
    exact ⟨_, results_tmp rfl _ _ _, ao, cap, rfl, hp, hB.trans (belowK_b (w := w) (Nat.le_refl _) W D _ _ (by simp at hD; omega) hK rfl rfl)⟩

theorem chainTake_any (p0 : Option Addr) (k : Int) (bs : List Nat) (hlen : bs.length ≤ 100000) (w : World) (hL : IsChain w.heap.size w p0 bs) :
    Calls Try.prog 18 #[.pointer p0, .int .i64 k] w fun e W' => ∃ ao cap, e = .returned (.slice ao (bs.take k.toNat).length cap) ∧ Ptrs W' ao (bs.take k.toNat) ∧ Below w.heap.size w W' :=
  callsIn_wide.1 (chainTake_in Fence.wide 3 trivial trivial trivial rfl (Nat.le_refl _) p0 k bs hlen w hL)
end Go.Proofs.Qxb6609009a

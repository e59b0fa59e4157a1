import Derived.Test.Qxb6609009aChLaw
namespace Go.Proofs.Qxb6609009a
open Go.RowKit Go.Shelf
attribute [local go_sem] Oper.semAt_some

/-- a slice of pointers to the nodes bs, one cell each, behind the address -/
def Ptrs (w : World) (ao : Option Addr) (bs : List Nat) : Prop :=
  ∀ k b, bs[k]? = some b → ∃ g off, ao = some ⟨g, off, none⟩ ∧ g < w.heap.size ∧ w.cell? ⟨g, off + k, none⟩ = some (ptr b)

theorem Ptrs.below {w w' : World} {ao : Option Addr} {bs : List Nat} (h : Ptrs w ao bs) (hb : Below w.heap.size w w') : Ptrs w' ao bs := by
  intro k b hk
  obtain ⟨g, off, h1, h2, h3⟩ := h k b hk
  exact ⟨g, off, h1, Nat.lt_of_lt_of_le h2 hb.size, (hb.cell (p := ⟨g, _, none⟩) h2).trans h3⟩

theorem ptrs_of_owns {W : World} {base : Nat} {v : Value} {bs : List Nat} (h : W.ownsRow base 26 1 v bs.length (bs.map ptr)) : ∃ ao cap, v = .slice ao bs.length cap ∧ bs.length ≤ cap ∧ Ptrs W ao bs := by
  rcases h.2 with ⟨rfl, h0⟩ | ⟨g, cap, cur, rfl, _, hgb, hcap, _⟩
  · obtain rfl : bs = [] := List.eq_nil_of_length_eq_zero h0
    exact ⟨none, 0, rfl, Nat.le_refl _, fun k b hk => by simp at hk⟩
  · refine ⟨some ⟨g, 0, none⟩, cap, rfl, hcap, fun k b hk => ⟨g, 0, rfl, (Array.getElem?_eq_some_iff.1 hgb).1, ?_⟩⟩
    have hlt := (List.getElem?_eq_some_iff.1 hk).1
    rw [h.cellAt (0 + k) (by omega)]
    simp [hk]

theorem Try.info26 : (Try.prog.info? 26).map (fun i => (i.zero, i.size, i.bytes)) = some (some (.pointer none), 1, 8) := by kernel_rfl

/-- the caller's state in a loop over Chain that collects: the box Bo of 'out' holds a slice whose row is one of the blocks from 'base' on, with the links l in it; nothing older than the call has turned -/
def Col (w : World) (Bo base : Nat) (l : List Nat) (W : World) : Prop :=
  (∃ v, Boxed W Bo 40 v ∧ W.ownsRow base 26 1 v l.length (l.map ptr)) ∧ Below w.heap.size w W

section
variable {w W W' : World} {Bo base Bt k : Nat} {l : List Nat}

theorem Col.kept {row : Option Nat} (h : Col w Bo base l W) (hg : W.grownBy W' row) (hB : ∀ r, row = some r → w.heap.size ≤ r)
    (hrow : ∀ r, row = some r → r ≠ Bo ∧ (r < base ∨ ∃ o : Obj, W.heap[r]? = some o ∧ o.isCells = false)) : Col w Bo base l W' := by
  obtain ⟨⟨v, hv, hr⟩, hb⟩ := h
  refine ⟨⟨v, hv.kept hg fun e => (hrow Bo e.symm).1 rfl, hr.kept hg ?_⟩, hb.grown hg hb.size hB⟩
  rcases hr.2 with ⟨rfl, _⟩ | ⟨g, cap, cur, rfl, hbase, hgb, _⟩
  · exact .inl rfl
  · refine .inr fun e => ?_
    rcases (hrow g (by simpa [Value.ownBlock] using e.symm)).2 with h' | ⟨o, ho, hc⟩
    · omega
    · rw [hgb] at ho; cases ho; cases hc

theorem Col.alloc (h : Col w Bo base l W) (o : Obj) : Col w Bo base l (W.alloc o) := h.kept (World.grownBy_alloc W o none) (by simp) (by simp)

theorem Col.put {o : Obj} (o' : Obj) (h : Col w Bo base l W) (hk : w.heap.size ≤ k) (hne : k ≠ Bo) (hl : W.heap[k]? = some o) (ho : o.isCells = false) : Col w Bo base l (W.putObj k o') :=
  h.kept (grownBy_putObj' W k o') (fun j e => by cases e; exact hk) (fun r e => by cases e; exact ⟨hne, .inr ⟨o, hl, ho⟩⟩)

theorem Col.store (h : Col w Bo base l W) (hk : w.heap.size ≤ Bt) (hne : Bt ≠ Bo) (hb : Bt < base) (v : Value) : Col w Bo base l (W.setCell ⟨Bt, 0, none⟩ v) :=
  h.kept (grownBy_setCell' W Bt v) (fun j e => by cases e; exact hk) (fun r e => by cases e; exact ⟨hne, .inl hb⟩)

/-- 'out = append(out, x)' -/
theorem Col.append {w1 : World} {v v' : Value} {tmp : Obj} {b : Nat} (hv : Boxed W Bo 40 v) (hr : W.ownsRow base 26 1 v l.length (l.map ptr)) (hb : Below w.heap.size w W) (hBo : w.heap.size ≤ Bo) (hBb : Bo < base) (hbs : base ≤ W.heap.size)
    (hBt : Bt < base) (hne : Bt ≠ Bo) (hown' : w1.ownsRow base 26 1 v' (l.length + 1) (l.map ptr ++ [ptr b])) (hgrow : (W.alloc tmp).grownBy w1 v.ownBlock) :
    Boxed w1 Bo 40 v ∧ Col w Bo base (l ++ [b]) (w1.setCell ⟨Bo, 0, none⟩ v') ∧ KeepsOthers W (w1.setCell ⟨Bo, 0, none⟩ v') ∧ Kept w.heap.size Bt W (w1.setCell ⟨Bo, 0, none⟩ v') := by
  have hown : ∀ r, v.ownBlock = some r → base ≤ r ∧ ∃ cur, W.heap[r]? = some (.cells cur 26 (0, 0)) := by
    intro r e
    rcases hr.2 with ⟨rfl, _⟩ | ⟨g, cap, cur, rfl, hbase, hgb, _⟩
    · simp [Value.ownBlock] at e
    · obtain rfl : g = r := by simpa [Value.ownBlock] using e
      exact ⟨hbase, cur, hgb⟩
  have hv1 : Boxed w1 Bo 40 v := (hv.alloc tmp).kept hgrow fun e => by have := (hown Bo e.symm).1; omega
  have hB1 : Below w.heap.size W w1 := ((Below.refl _ W).alloc (by omega) tmp).grown hgrow (by simp; omega) fun r e => by have := (hown r e).1; omega
  have hB2 : Below w.heap.size W (w1.setCell ⟨Bo, 0, none⟩ v') := hB1.setCell (p := ⟨Bo, 0, none⟩) hBo _
  refine ⟨hv1, ⟨⟨v', hv1.set v', ?_⟩, hb.trans hB2⟩, ?_, hB2, fun u hu => ?_⟩
  · have := ownsRow_setCell_below hown' (a := ⟨Bo, 0, none⟩) hBb v'
    simpa using this
  · refine ((KeepsOthers.alloc W tmp).trans (KeepsOthers.of_grownBy hgrow fun j o ej hj => ?_)).trans (KeepsOthers.setCell _ _ _)
    obtain ⟨_, cur, hc⟩ := hown j ej
    rw [(Below.heap_alloc W tmp j (Array.getElem?_eq_some_iff.1 hc).1).trans hc] at hj
    cases hj
    rfl
  · exact (((hu.alloc tmp).kept hgrow fun e => by have := (hown Bt e.symm).1; omega).kept (grownBy_setCell' w1 Bo v') (by simpa using hne))
end

set_option maxRecDepth 100000 in
set_option maxHeartbeats 2000000 in
theorem chainAll_in (F : Fence) (n : Nat) (h14 : F.fn 14) (h19 : F.fn 19) (h20 : F.fn 20) (hro : F.round = none) (hn : 3 ≤ n) (p0 : Option Addr) (bs : List Nat) (hlen : bs.length ≤ 100000) (w : World) (hL : IsChain w.heap.size w p0 bs) :
    CallsIn F n Try.prog 14 #[.pointer p0] w fun e W' => ∃ ao cap, e = .returned (.slice ao bs.length cap) ∧ bs.length ≤ cap ∧ Ptrs W' ao bs ∧ Below w.heap.size w W' := by
  obtain ⟨i0, hi, hz0, hz1, hz2⟩ := info_parts Try.info26
  have h1 : 1 ≤ n := by omega
  refine callsIn_of_wp_marks Try.func14 rfl h14 ?_ hro
  simp only [Try.ntmps14, List.size_toArray, List.length_cons, List.length_nil, Nat.reduceAdd, Nat.reduceSub, Array.replicate_succ, Array.replicate_zero, List.push_toArray, List.append_toArray, List.nil_append, List.cons_append]
  gi_wp2_with (gi_at_call 19; refine (chain_in F (n - 1) h19 hro _ _).mono ?_; rintro e w' ⟨rfl, rfl⟩)
  have bO := Boxed.new w 40 (.slice none 0 0)
  have bN := Boxed.new (w.alloc (.cells #[.slice none 0 0] 40)) 26 (.pointer p0)
  rw [World.size_alloc] at bN
  have hB0 : Below w.heap.size w ((w.alloc (.cells #[.slice none 0 0] 40)).alloc (.cells #[.pointer p0] 26)) := ((Below.refl _ w).alloc (Nat.le_refl _) _).alloc (by simp) _
  refine wpIn_rangeChain hro (by omega) (Bt := w.heap.size + 1) (n₀ := w.heap.size) (by omega) rfl h20 rfl bN (hL.below hB0)
    (fun pre W => Col w w.heap.size (w.heap.size + 2) pre W ∧ w.heap.size + 2 ≤ W.heap.size) (fun _ _ _ => False)
    (fun s W o h => ⟨h.1.alloc o, by have := h.2; simp; omega⟩)
    (fun s W l o o' hl ho hc h => ⟨h.1.put o' (by simp at hl; omega) (by simp at hl; omega) ho hc, by simpa using h.2⟩)
    (fun c s W l o o' _ _ _ h => h)
    (fun s W v h => ⟨h.1.store (by omega) (by omega) (by omega) v, by simpa using h.2⟩)
    ⟨⟨⟨_, bO.alloc _, World.ownsRow_nil _ _ _ _⟩, hB0⟩, by simp⟩
    (fun b => { tmps := #[.pointer p0, undef, .slice none 0 0, .pointer (some ⟨w.heap.size, 0, none⟩), .pointer (some ⟨b, 0, none⟩), .pointer p0, .func (.func 20) #[] #[.pointer (some ⟨w.heap.size + 1, 0, none⟩)], .pointer (some ⟨b, 0, none⟩), undef, undef, undef, undef, undef], defers := [] }) ?assign ?body ?done ?stop
  case assign =>
    intro l x W K hK
    gi_wp2
    exact hK
  case body =>
    rintro l pre b W ⟨⟨⟨v, hv, hrow⟩, hB⟩, hsz⟩ hpre
    have hc := hv.cell
    have hpl : pre.length < bs.length := by have := hpre.length_le; simp at this; omega
    gi_wp2_with (gi_at_builtin; refine wpListIn_append_own _ rfl _ _ 40 rfl (w.heap.size + 2) 26 i0 (.pointer none) 1 8 Try.underlying40 hi hz0 hz1 hz2 rfl (by decide) _ _ _ rfl (hrow.alloc _) ⟨W.heap.size, 0, none⟩ 1 1 [.pointer (some ⟨b, 0, none⟩)] rfl rfl (cell_one_new _ _ _) (by simp [Value.oneCell']) (by unfold maxLen; omega) (by omega) (by simp; omega) ?_; intro v' w1 hown' hgrow _; obtain ⟨g', cap', rfl⟩ := ownsRow_succ hown'; obtain ⟨hv1, hcol, hko, hkp⟩ := Col.append (Bt := w.heap.size + 1) hv hrow hB (Nat.le_refl _) (by omega) hsz (by omega) (by omega) hown' hgrow; have hc1 := hv1.cell; have hf1 := hv1.frozen)
    exact ⟨hko.from _, hkp, hcol, by have := hcol.2.size; have := hko.size; omega⟩
  case done =>
    rintro D W hD ⟨⟨⟨v, hv, hrow⟩, hB⟩, hsz⟩ hK
    have hc := hv.cell
    gi_wp2
    obtain ⟨ao, cap, rfl, hle, hp⟩ := ptrs_of_owns (ownsRow_putObj hrow (.deferred none) hK rfl)
    refine ⟨by simp, .inl ⟨_, _, rfl, run_takeDeferred hK, ?_⟩⟩
    exact ⟨_, results_tmp rfl _ _ _, ao, cap, rfl, hle, hp, hB.trans (belowK_b (w := w) (Nat.le_refl _) W D _ _ (by simp at hD; omega) hK rfl rfl)⟩
  case stop =>
    rintro D c pre W _ _ h _
    exact h.elim

theorem chainAll_any (p0 : Option Addr) (bs : List Nat) (hlen : bs.length ≤ 100000) (w : World) (hL : IsChain w.heap.size w p0 bs) :
    Calls Try.prog 14 #[.pointer p0] w fun e W' => ∃ ao cap, e = .returned (.slice ao bs.length cap) ∧ bs.length ≤ cap ∧ Ptrs W' ao bs ∧ Below w.heap.size w W' :=
  callsIn_wide.1 (chainAll_in Fence.wide 3 trivial trivial trivial rfl (Nat.le_refl _) p0 bs hlen w hL)
end Go.Proofs.Qxb6609009a

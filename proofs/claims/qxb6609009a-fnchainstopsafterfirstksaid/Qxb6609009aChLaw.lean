import Derived.Test.Qxb6609009aChIter
namespace Go.Proofs.Qxb6609009a
open Go.RowKit Go.Shelf

/-- what a round over Chain keeps: all that lay below n₀, and the iterator's own box -/
def Kept (n₀ Bt : Nat) (W W' : World) : Prop := Below n₀ W W' ∧ ∀ v, Boxed W Bt 26 v → Boxed W' Bt 26 v

theorem Kept.trans {n₀ Bt : Nat} {A B C : World} (h : Kept n₀ Bt A B) (k : Kept n₀ Bt B C) : Kept n₀ Bt A C := ⟨h.1.trans k.1, fun v hv => k.2 v (h.2 v hv)⟩

theorem Kept.put {n₀ Bt l : Nat} {W : World} {o : Obj} (o' : Obj) (hn : n₀ ≤ l) (hl : W.heap[l]? = some o) (ho : o.isCells = false) : Kept n₀ Bt W (W.putObj l o') := by
  refine ⟨(Below.refl n₀ W).grown (grownBy_putObj' W l o') (by have := (Array.getElem?_eq_some_iff.1 hl).1; omega) (fun k e => by cases e; omega), fun v hv => hv.kept (grownBy_putObj' W l o') fun e => ?_⟩
  obtain rfl : Bt = l := by simpa using e
  rw [show W.heap[Bt]? = _ from hv] at hl
  cases hl
  cases ho

set_option maxHeartbeats 1000000 in
/-- 'for x := range t.Chain() { .. }': the caller brings an invariant that abides new blocks, the loop's own record, and a store into the iterator's box; and one walk of its body. -/
theorem wpIn_rangeChain {F : Fence} {n : Nat} {g : Operand} {ps : Array Tmp} {assign body : Code} {Q : Exit → Act → World → Prop} {a : Act} {w : World}
    (hro : F.round = none) (hn : 2 ≤ n) {Bt n₀ : Nat} (hn₀ : n₀ ≤ Bt) (hg : a.eval g = .func (.func 20) #[] #[.pointer (some ⟨Bt, 0, none⟩)]) (h20 : F.fn 20) (hps : ps.size = 1)
    {p0 : Option Addr} {bs : List Nat} (hbx : Boxed w Bt 26 (.pointer p0)) (hL : IsChain n₀ w p0 bs)
    (I : List Nat → World → Prop) (Ix : Code → List Nat → World → Prop)
    (hIa : ∀ s W o, I s W → I s (W.alloc o))
    (hIp : ∀ s W l o o', w.heap.size ≤ l → W.heap[l]? = some o → o.isCells = false → I s W → I s (W.putObj l o'))
    (hXp : ∀ c s W l o o', w.heap.size ≤ l → W.heap[l]? = some o → o.isCells = false → Ix c s W → Ix c s (W.putObj l o'))
    (hIt : ∀ s W v, I s W → I s (W.setCell ⟨Bt, 0, none⟩ v)) (h0 : I [] w) (a₁ : Nat → Act)
    (hassign : ∀ (l b : Nat) (W : World) (K : Act → World → Prop), K (a₁ b) W →
      assign.wpIn (F.inRound l) (n - 1 - 1) Try.prog (Exit.then K (fun _ _ _ => False)) { tmps := (ps.zip #[ptr b]).foldl (fun t (p, v) => t.setIfInBounds p v) a.tmps, defers := [] } W)
    (hbody : ∀ (l : Nat) (pre : List Nat) (b : Nat) (W : World), I pre W → pre ++ [b] <+: bs → body.wpIn (F.inRound l) (n - 1 - 1) Try.prog (ownPostG w.heap.size (Kept n₀ Bt) I Ix (pre ++ [b]) W) (a₁ b) W)
    (hdone : ∀ (D : Nat) (W : World), w.heap.size ≤ D → I bs W → W.heap[D]? = some (.deferred (some [])) → Q .normal { a with defers := { target := .collected D, args := #[] } :: a.defers } W)
    (hstop : ∀ (D : Nat) (c : Code) (pre : List Nat) (W : World), w.heap.size ≤ D → pre <+: bs → Ix c pre W → W.heap[D]? = some (.deferred (some [])) → c.wpIn F n Try.prog Q { a with defers := { target := .collected D, args := #[] } :: a.defers } W) :
    (Code.rangeFunc g ps assign body).wpIn F n Try.prog Q a w := by
  refine wpIn_rangeFunc fun fn hfn => ?_
  rw [hro]
  have hBlt : Bt < w.heap.size := hbx.lt
  -- the record, by its state and its pending jump
  obtain ⟨rc, hrc⟩ : ∃ rc : LoopState → Option Code → Loop, rc = fun st pe => { state := st, pending := pe, fn, tmps := a.tmps, params := ps, assign, body, defers := w.heap.size } := ⟨_, rfl⟩
  obtain ⟨l, hl⟩ : ∃ l, l = w.heap.size + 1 := ⟨_, rfl⟩
  obtain ⟨W1, hW1⟩ : ∃ W1, (w.alloc (.deferred (some []))).alloc (.loop (rc .ready none)) = W1 := ⟨_, rfl⟩
  have hR1 : W1.heap[l]? = some (.loop (rc .ready none)) := by
    have := World.alloc_heap_new (w.alloc (.deferred (some []))) (.loop (rc .ready none))
    rw [World.size_alloc] at this
    rw [← hW1, hl]
    exact this
  have hD1 : W1.heap[w.heap.size]? = some (.deferred (some [])) := by
    rw [← hW1]
    exact (Below.heap_alloc _ _ _ (by simp)).trans (World.alloc_heap_new w _)
  have hI1 : I [] W1 := by rw [← hW1]; exact hIa _ _ _ (hIa _ _ _ h0)
  have hB1 : Below w.heap.size w W1 := by rw [← hW1]; exact ((Below.refl _ w).alloc (Nat.le_refl _) _).alloc (by simp) _
  have hbx1 : Boxed W1 Bt 26 (.pointer p0) := (hB1.block Bt hBlt).trans hbx
  have hL1 : IsChain n₀ W1 p0 bs := hL.below (hB1.mono (by omega))
  refine ⟨l, [{ target := .collected w.heap.size, args := #[] }], W1, { target := .fn (.func 20) #[.pointer (some ⟨Bt, 0, none⟩)], args := #[.func (.yield l) #[] #[]] }, W1, 20,
    #[.func (.yield l) #[] #[]] ++ #[.pointer (some ⟨Bt, 0, none⟩)], W1, ?_, ?_, ?_, ?_, fun _ => by omega, ?_⟩
  · rw [← hW1, hrc, hl]; exact run_enterLoop_outer _ _ _ _ _
  · simp only [resolve, hg]
    simp [go_sem]
  · intro f' hf'
    simp [Target.leads] at hf'
    subst hf'
    exact h20
  · simp [invoke, go_sem]
  · refine (chain1_in F (n - 1) h20 hro (by omega) l Bt n₀ p0 bs
      (fun pre W => I pre W ∧ W.heap[l]? = some (.loop (rc .ready none)) ∧ W.heap[w.heap.size]? = some (.deferred (some [])))
      (fun pre W => ∃ c, Ix c pre W ∧ W.heap[l]? = some (.loop (rc .done (some c))) ∧ W.heap[w.heap.size]? = some (.deferred (some [])))
      hn₀ ?_ ?_ W1 hbx1 hL1 ⟨hI1, hR1, hD1⟩).mono ?_
    · rintro pre W v ⟨hi, hr, hd⟩
      exact ⟨hIt _ _ _ hi, (Below.heap_setCell _ _ _ _ (by simp; omega)).trans hr, (Below.heap_setCell _ _ _ _ (by simp; omega)).trans hd⟩
    · -- one round
      rintro pre b W ⟨hi, hr, hd⟩ hpre
      have hlt : l < W.heap.size := (Array.getElem?_eq_some_iff.1 hr).1
      have hy := run_yield (P := Try.prog) (args := #[ptr b]) hr (by rw [hrc]; simp [hps])
      rw [hrc] at hy
      refine ⟨fn, _, assign, body, hy, roundIn_of_wpIn hfn (hassign _ b W _ ⟨_, run_beginRound hr (by rw [hrc]), ?_⟩)⟩
      obtain ⟨W2, hW2⟩ : ∃ W2, W.putObj l (.loop { rc .ready none with state := .busy }) = W2 := ⟨_, rfl⟩
      rw [hW2]
      have hr2 : W2.heap[l]? = some (.loop { rc .ready none with state := .busy }) := by rw [← hW2]; exact World.putObj_heap_same hlt
      have hd2 : W2.heap[w.heap.size]? = some (.deferred (some [])) := by rw [← hW2]; exact (World.putObj_heap_other (by omega)).trans hd
      have hk2 : Kept n₀ Bt W W2 := by rw [← hW2]; exact Kept.put _ (by omega) hr rfl
      have hi2 : I pre W2 := by rw [← hW2]; exact hIp _ _ _ _ _ (by omega) hr rfl hi
      refine wpIn_mono (hbody l pre b W2 hi2 hpre) ?_
      -- what endRound does
      have fin : ∀ (jump : Option Code) (W3 : World), KeepsFrom w.heap.size W2 W3 → ∃ W4, W4 = W3.putObj l (.loop (rc (if jump.isNone then .ready else .done) jump)) ∧
          (Instr.endRound l jump).run Try.prog W3 = .ok (.bool jump.isNone) W4 ∧ W3.heap[l]? = some (.loop { rc .ready none with state := .busy }) ∧
          W4.heap[l]? = some (.loop (rc (if jump.isNone then .ready else .done) jump)) ∧ W4.heap[w.heap.size]? = some (.deferred (some [])) := by
        intro jump W3 hk3
        have hr3 := hk3.same l _ (by omega) hr2 rfl
        have hd3 := hk3.same w.heap.size _ (Nat.le_refl _) hd2 rfl
        have e := run_endRound (P := Try.prog) jump hr3
        refine ⟨_, rfl, ?_, hr3, World.putObj_heap_same (Array.getElem?_eq_some_iff.1 hr3).1, (World.putObj_heap_other (by omega)).trans hd3⟩
        rw [hrc] at e ⊢
        exact e
      rintro e a3 W3 hp
      cases e with
      | normal =>
        obtain ⟨hk3, hkp3, hi3⟩ := hp
        obtain ⟨W4, hW4, hrun, hr3, hr4, hd4⟩ := fin none W3 hk3
        refine ⟨_, _, hrun, .inl ⟨rfl, ⟨?_, hr4, hd4⟩, ?_⟩⟩
        · rw [hW4]; exact hIp _ _ _ _ _ (by omega) hr3 rfl hi3
        · have hk4 : Kept n₀ Bt W3 W4 := by rw [hW4]; exact Kept.put _ (by omega) hr3 rfl
          exact (hk2.trans hkp3).trans hk4
      | ret =>
        obtain ⟨hk3, hi3⟩ := hp
        obtain ⟨W4, hW4, hrun, hr3, hr4, hd4⟩ := fin (some .ret) W3 hk3
        exact ⟨_, _, hrun, .inr ⟨rfl, .ret, by rw [hW4]; exact hXp _ _ _ _ _ _ (by omega) hr3 rfl hi3, hr4, hd4⟩⟩
      | exit id =>
        obtain ⟨hk3, hi3⟩ := hp
        obtain ⟨W4, hW4, hrun, hr3, hr4, hd4⟩ := fin (some (.exit id)) W3 hk3
        exact ⟨_, _, hrun, .inr ⟨rfl, .exit id, by rw [hW4]; exact hXp _ _ _ _ _ _ (by omega) hr3 rfl hi3, hr4, hd4⟩⟩
      | goto t =>
        obtain ⟨hk3, hi3⟩ := hp
        obtain ⟨W4, hW4, hrun, hr3, hr4, hd4⟩ := fin (some (.goto t)) W3 hk3
        exact ⟨_, _, hrun, .inr ⟨rfl, .goto t, by rw [hW4]; exact hXp _ _ _ _ _ _ (by omega) hr3 rfl hi3, hr4, hd4⟩⟩
      | panic ch => exact hp.elim
      | outgrown => exact hp.elim
    · -- behind the iterator
      rintro e W2 ⟨⟨v, rfl⟩, (⟨hi, hr, hd⟩ | ⟨pre, hpre, c, hi, hr, hd⟩)⟩
      · have he := run_endLoop (P := Try.prog) hr (by rw [hrc]; simp)
        rw [hrc] at he hr
        exact ⟨none, _, he, hdone _ _ (Nat.le_refl _) (hIp _ _ _ _ _ (by omega) hr rfl hi) ((World.putObj_heap_other (by omega)).trans hd)⟩
      · have he := run_endLoop (P := Try.prog) hr (by rw [hrc]; simp)
        rw [hrc] at he hr
        exact ⟨some c, _, he, hstop _ c pre _ (Nat.le_refl _) hpre (hXp _ _ _ _ _ _ (by omega) hr rfl hi) ((World.putObj_heap_other (by omega)).trans hd)⟩
end Go.Proofs.Qxb6609009a

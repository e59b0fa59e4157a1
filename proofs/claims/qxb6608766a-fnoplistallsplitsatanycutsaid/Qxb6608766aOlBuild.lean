import Derived.Test.Qxb6608766aOlBase
namespace Go.Proofs.Qxb6608766a
open Go.RowKit

theorem Try.info34 : (Try.prog.info? 34).map (fun i => (i.zero, i.size, i.bytes)) = some (some (.agg #[.int .u8 0, .bool false, .bool false, .int .i64 0, .string ⟨#[]⟩, .int .i64 0, .pointer none]), 7, 48) := by kernel_rfl
theorem Try.info29 : (Try.prog.info? 29).map (fun i => (i.zero, i.size, i.bytes)) = some (some (.slice none 0 0), 1, 24) := by kernel_rfl

set_option maxHeartbeats 400000 in
theorem opOf17 (z : Int) (w : World) : Calls Try.prog 17 #[.int .i64 z] w fun e w' => e = .returned (.agg (opCells z).toArray) ∧ Below w.heap.size w w' := by
  go_enter Try.func17, Try.ntmps17
  go_wp2
  refine bodyPost_ret (v := .agg (opCells z).toArray) (by simp [results, Try.results17, go_sem, opCells]) rfl ⟨rfl, ?_⟩
  exact (Below.refl _ _).alloc (Nat.le_refl _) _

theorem FilledOps.step {w : World} {g n k : Nat} {r : List Int} {z : Int} (h : FilledOps w g n k r) (hk : k < n) (hz : r[k]? = some z) :
    FilledOps (((((((w.setCell ⟨g, k * 7, none⟩ (.int .u8 1)).setCell ⟨g, k * 7 + 1, none⟩ (.bool false)).setCell ⟨g, k * 7 + 2, none⟩ (.bool false)).setCell ⟨g, k * 7 + 3, none⟩ (.int .i64 z)).setCell ⟨g, k * 7 + 4, none⟩ (.string ⟨#[]⟩)).setCell ⟨g, k * 7 + 5, none⟩ (.int .i64 0)).setCell ⟨g, k * 7 + 6, none⟩ (.pointer none)) g n (k + 1) r := by
  obtain ⟨cur, h1, h2, h3⟩ := h
  refine ⟨_, heap_setCell_same _ g _ _ 34 _ (heap_setCell_same _ g _ _ 34 _ (heap_setCell_same _ g _ _ 34 _ (heap_setCell_same _ g _ _ 34 _ (heap_setCell_same _ g _ _ 34 _ (heap_setCell_same _ g _ _ 34 _ (heap_setCell_same _ g _ _ 34 _ h1)))))), by simpa using h2, ?_⟩
  intro j u hj hu
  by_cases e : j < k * 7
  · have := h3 j u e hu
    simp only [Array.getElem?_setIfInBounds]
    rw [if_neg (by omega), if_neg (by omega), if_neg (by omega), if_neg (by omega), if_neg (by omega), if_neg (by omega), if_neg (by omega)]
    exact this
  · obtain ⟨t, rfl⟩ : ∃ t, j = k * 7 + t := ⟨j - k * 7, by omega⟩
    have ht : t < 7 := by omega
    obtain ⟨v, hv⟩ : ∃ v, (opCells z)[t]? = some v := ⟨(opCells z)[t]'ht, List.getElem?_eq_getElem ht⟩
    have e := flatOps_at r k z t v hz hv
    rw [e] at hu
    obtain rfl := Option.some.inj hu
    clear e hj
    have c : t = 0 ∨ t = 1 ∨ t = 2 ∨ t = 3 ∨ t = 4 ∨ t = 5 ∨ t = 6 := by omega
    rcases c with rfl | rfl | rfl | rfl | rfl | rfl | rfl <;> (simp [opCells] at hv; subst hv; simp [Array.getElem?_setIfInBounds]; omega)

set_option maxHeartbeats 1000000 in
theorem build_some (a : Addr) (n cap : Nat) (ms : List (List Int)) (hn : ms.length = n) (hn2 : n ≤ 4096) (w : World) (hl : Mat w (some a) ms) (hb : ∀ (k : Nat) (r : List Int), ms[k]? = some r → r.length ≤ 1048576) :
    Calls Try.prog 8 #[.slice (some a) n cap] w fun e w' => ∃ ao' cap', e = .returned (.slice ao' n cap') ∧ Blocks w' w.heap.size w'.heap.size ao' n 0 ms ∧ Below w.heap.size w w' := by
  obtain ⟨i0, hi, hz0, hz1, hz2⟩ := info_parts Try.info34
  obtain ⟨i9, hi9, hz09, hz19, hz29⟩ := info_parts Try.info29
  have hq : ∀ (w : World) (a : Option Addr) (n c n' c' : Nat), (binOp .eql 22 (.slice a n c) (.slice none n' c')).run Try.prog w = .ok (.bool a.isNone) w := fun w a n c n' c' => Lib.run_eql_slice_nil w _ _ a n c n' c' Try.underlying22
  have hq24 : ∀ (w : World) (a : Option Addr) (n c n' c' : Nat), (binOp .eql 24 (.slice a n c) (.slice none n' c')).run Try.prog w = .ok (.bool a.isNone) w := fun w a n c n' c' => Lib.run_eql_slice_nil w _ _ a n c n' c' Try.underlying24
  go_enter Try.func8, Try.ntmps8
  go_wp2_with (at_make; refine wpList_make_full _ rfl _ _ 27 rfl w.heap.size 29 i9 _ 1 Try.underlying27 hi9 hz09 hz19 _ _ _ _ n rfl rfl rfl rfl ?c1 ?c2 ?c3 ?_)
  case c1 => rw [hz29]; omega
  case c2 => unfold maxLen; omega
  case c3 => exact Nat.le_refl _
  intro w1 hown hgrow
  have hF : Built w1 w1.heap.size w.heap.size n 0 ms := Built.start hown (by apply List.ext_getElem? ; intro i; by_cases h : i < n <;> simp [madeCells, h, Nat.mod_one])
  have hB : Below w.heap.size w w1 := (Below.refl _ _).grown hgrow (Nat.le_refl _) (by simp)
  clear hown hgrow
  go_wp2
  go_loopw [4] (fun i wr => ∃ k : Nat, k ≤ n ∧ i = .int .i64 k ∧ Below w.heap.size w wr ∧ Built wr wr.heap.size w.heap.size n k ms) (fun i _ => n - (intOf i).toNat)
  case atStart => exact ⟨0, Nat.zero_le _, rfl, hB, hF⟩
  case round =>
    clear hF hB
    obtain ⟨k, hk, rfl, hbw, hF⟩ := hrel
    by_cases hlt : k < n
    · obtain ⟨r, hp⟩ : ∃ p, ms[k]? = some p := ⟨ms[k], by simp [hn, hlt]⟩
      obtain ⟨b, off, A, c, hao, hbs, e0, hrow⟩ := hl k _ hp
      have hrl := hb k r hp
      replace hp := hidden hp
      replace hb := hidden hb
      obtain rfl := Option.some.inj hao
      have e0' : wr.cell? ⟨b, off + k, none⟩ = some (.slice A r.length c) := (hbw.cell (p := ⟨b, _, none⟩) hbs).trans e0
      clear e0 hao
      cases A with
      | none =>
        have hr0 : r = [] := by
          cases r with
          | nil => rfl
          | cons p t => obtain ⟨_, _, h, _⟩ := hrow 0 p rfl; cases h
        subst hr0
        have hF' := hF.skip hlt hp.out
        go_wp2
        go_roundw
        case rel => exact ⟨k + 1, by omega, by go_num, hbw, hF'⟩
        case measure => simp [intOf]; omega
      | some A =>
        go_wp2_with (at_make; refine wpList_make_full _ rfl _ _ 29 rfl wr.heap.size 34 i0 _ 7 Try.underlying29 hi hz0 hz1 _ _ _ _ r.length rfl rfl rfl rfl ?c1 ?c2 ?c3 ?_)
        case c1 => rw [hz2]; omega
        case c2 => unfold maxLen; omega
        case c3 => exact Nat.le_refl _
        intro w2 hown hgrow
        have hG : FilledOps w2 wr.heap.size r.length 0 r := FilledOps.start hown
        have hB2 : Below wr.heap.size wr w2 := (Below.refl _ _).grown hgrow (Nat.le_refl _) (by simp)
        clear hown hgrow
        obtain ⟨wo, rfl⟩ : ∃ x, x = wr := ⟨_, rfl⟩
        have hsz : w.heap.size ≤ wo.heap.size := hbw.size
        go_wp2
        go_loopw [6] (fun i wq => ∃ t : Nat, t ≤ r.length ∧ i = .int .i64 t ∧ Below wo.heap.size wo wq ∧ FilledOps wq wo.heap.size r.length t r) (fun i _ => r.length - (intOf i).toNat)
        case atStart => exact ⟨0, Nat.zero_le _, rfl, hB2, hG⟩
        case round =>
          clear hG hB2
          obtain ⟨t, ht, rfl, hbq, hG⟩ := hrel
          have e0q : wr.cell? ⟨b, off + k, none⟩ = some (.slice (some A) r.length c) := (hbq.cell (p := ⟨b, _, none⟩) (Nat.lt_of_lt_of_le hbs hsz)).trans e0'
          by_cases hlt2 : t < r.length
          · obtain ⟨z, hz⟩ : ∃ z, r[t]? = some z := ⟨r[t], by simp [hlt2]⟩
            obtain ⟨bA, offA, hA, hbA, e1⟩ := hrow t z hz
            replace hz := hidden hz
            obtain rfl := Option.some.inj hA
            have e1q : wr.cell? ⟨bA, offA + t, none⟩ = some (.int .i64 z) := (hbq.cell (p := ⟨bA, _, none⟩) (Nat.lt_of_lt_of_le hbA hsz)).trans ((hbw.cell (p := ⟨bA, _, none⟩) hbA).trans e1)
            clear e1 hA
            go_wp2_with fail
            refine (opOf17 z _).mono ?_
            rintro e w3 ⟨rfl, hB3⟩
            have hG3 := hG.under hB3
            have hb3 : Below wo.heap.size wo w3 := hbq.trans (hB3.mono hbq.size)
            obtain ⟨⟨v0, d0⟩, f0⟩ := hG3.cellAt hlt2 0 (by omega)
            obtain ⟨⟨v1, d1⟩, f1⟩ := hG3.cellAt hlt2 1 (by omega)
            obtain ⟨⟨v2, d2⟩, f2⟩ := hG3.cellAt hlt2 2 (by omega)
            obtain ⟨⟨v3, d3⟩, f3⟩ := hG3.cellAt hlt2 3 (by omega)
            obtain ⟨⟨v4, d4⟩, f4⟩ := hG3.cellAt hlt2 4 (by omega)
            obtain ⟨⟨v5, d5⟩, f5⟩ := hG3.cellAt hlt2 5 (by omega)
            obtain ⟨⟨v6, d6⟩, f6⟩ := hG3.cellAt hlt2 6 (by omega)
            rw [Nat.add_zero] at d0 f0
            have hG' := hG3.step hlt2 hz.out
            clear hG hbq hB3 e0q e1q
            simp only [opCells]
            go_wp2
            go_roundw
            case rel => exact ⟨t + 1, by omega, by go_num, (((((((hb3.setCell (Nat.le_refl _) _).setCell (Nat.le_refl _) _).setCell (Nat.le_refl _) _).setCell (Nat.le_refl _) _).setCell (Nat.le_refl _) _).setCell (Nat.le_refl _) _).setCell (Nat.le_refl _) _), hG'⟩
            case measure => simp [intOf]; omega
          · have htn : t = r.length := by omega
            have hG' : FilledOps wr wo.heap.size r.length r.length r := by rw [← htn]; rw [← htn] at hG; exact hG
            have hrow' : OpRow wr (w.heap.size + 1) wr.heap.size (some ⟨wo.heap.size, 0, none⟩) r := hG'.row rfl (by obtain ⟨_, _, _, h, _⟩ := hF; omega)
            have hF' : Built wr wr.heap.size w.heap.size n k ms := (hF.under hbq).wide hbq.size
            obtain ⟨⟨v0, d0⟩, f0⟩ := hF'.cellAt hlt
            have hF2 := hF'.store (c := r.length) hlt hp.out hrow'
            have hbw' : Below w.heap.size w wr := hbw.trans (hbq.mono hsz)
            clear htn hG hF' hF hrow'
            go_wp2
            go_roundw
            case rel => exact ⟨k + 1, by omega, by go_num, hbw'.setCell (Nat.le_refl _) _, by simpa using hF2⟩
            case measure => simp [intOf]; omega
    · have hkn : k = n := by omega
      have hF' : Built wr wr.heap.size w.heap.size n n ms := by rw [← hkn]; rw [← hkn] at hF; exact hF
      clear hkn hF
      go_wp2
      go_ret
      exact ⟨_, _, rfl, hF'.blocks hn (Nat.le_refl _), hbw⟩
end Go.Proofs.Qxb6608766a

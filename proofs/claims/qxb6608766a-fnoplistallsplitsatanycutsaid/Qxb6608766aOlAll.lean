import Derived.Test.Qxb6608766aOlBuild
namespace Go.Proofs.Qxb6608766a
open Go.RowKit

set_option maxHeartbeats 400000 in
theorem build_any (ao : Option Addr) (n cap : Nat) (ms : List (List Int)) (hn : ms.length = n) (hn2 : n ≤ 4096) (w : World) (hl : Mat w ao ms) (hb : ∀ (k : Nat) (r : List Int), ms[k]? = some r → r.length ≤ 1048576) :
    Calls Try.prog 8 #[.slice ao n cap] w fun e w' => ∃ ao' cap', e = .returned (.slice ao' n cap') ∧ Blocks w' w.heap.size w'.heap.size ao' n 0 ms ∧ Below w.heap.size w w' := by
  cases ao with
  | some a => exact build_some a n cap ms hn hn2 w hl hb
  | none =>
    have hxs : ms = [] := by
      cases ms with
      | nil => rfl
      | cons p t => obtain ⟨_, _, _, _, h, _⟩ := hl 0 p rfl; cases h
    subst hxs
    obtain rfl : 0 = n := hn
    clear hb hl
    have hq : ∀ (w : World) (a : Option Addr) (n c n' c' : Nat), (binOp .eql 22 (.slice a n c) (.slice none n' c')).run Try.prog w = .ok (.bool a.isNone) w := fun w a n c n' c' => Lib.run_eql_slice_nil w _ _ a n c n' c' Try.underlying22
    go_enter Try.func8, Try.ntmps8
    go_wp2
    go_ret
    exact ⟨_, _, rfl, .inl rfl, Below.refl _ _⟩

set_option maxHeartbeats 400000 in
theorem new7 (ao : Option Addr) (n c : Nat) (N : Int) (w : World) :
    Calls Try.prog 7 #[.slice ao n c, .int .i64 N] w fun e w' => e = .returned (.pointer (some ⟨w.heap.size, 0, none⟩)) ∧ w' = w.alloc (.cells #[.slice ao n c, .int .i64 N] 52) := by
  go_enter Try.func7, Try.ntmps7
  go_wp2
  go_ret
  exact ⟨rfl, rfl⟩

/-- the list of operations at block bl, its blocks below it, at lo or above -/
def OpList (w : World) (lo bl : Nat) (ms : List (List Int)) : Prop :=
  ∃ ao n c, w.heap[bl]? = some (.cells #[.slice ao n c, .int .i64 (ms.flatten.length : Nat)] 52 (0, 0)) ∧ lo ≤ bl ∧ ms.length = n ∧ Blocks w lo bl ao n 0 ms

theorem OpList.out {w w' : World} {lo bl lo' hi' : Nat} {ms : List (List Int)} (h : OpList w lo bl ms) (ho : Out lo' hi' w w') (hd : bl < lo' ∨ hi' ≤ lo) : OpList w' lo bl ms := by
  obtain ⟨ao, n, c, h1, h2, h3, h4⟩ := h
  exact ⟨ao, n, c, (ho.block bl (Array.getElem?_eq_some_iff.1 h1).1 (by omega)).trans h1, h2, h3, h4.out ho (by omega)⟩
theorem OpList.below {w w' : World} {lo bl : Nat} {ms : List (List Int)} (h : OpList w lo bl ms) (ho : Below w.heap.size w w') : OpList w' lo bl ms := by
  obtain ⟨ao, n, c, h1, h2, h3, h4⟩ := h
  exact ⟨ao, n, c, (ho.block bl (Array.getElem?_eq_some_iff.1 h1).1).trans h1, h2, h3, h4.below ho⟩

theorem Out.refl {lo hi : Nat} (w : World) : Out lo hi w w := ⟨rfl, rfl, rfl, Nat.le_refl _, fun _ _ _ => rfl⟩
theorem Out.setCell {lo hi : Nat} {w w' : World} (h : Out lo hi w w') {p : Addr} (h1 : lo ≤ p.block) (h2 : p.block < hi) (u : Value) : Out lo hi w (w'.setCell p u) :=
  ⟨h.os, h.tape, h.output, by simpa using h.size, fun k hk hd => (heap_setCell_other _ _ _ _ (by omega)).trans (h.block k hk hd)⟩
theorem Out.grown {lo hi : Nat} {w w1 w' : World} (h : Out lo hi w w1) {row : Option Nat} (hg : w1.grownBy w' row) (hr : ∀ k, row = some k → w.heap.size ≤ k) : Out lo hi w w' :=
  ⟨hg.os.trans h.os, hg.tape.trans h.tape, hg.output.trans h.output, Nat.le_trans h.size hg.size,
    fun k hk hd => (hg.block k (Nat.lt_of_lt_of_le hk h.size) (fun e => by have := hr k e.symm; omega)).trans (h.block k hk hd)⟩
theorem ownsRow_block {w w' : World} {G e size n cap : Nat} {xs : List Value} (h : w.ownsRow G e size (.slice (some ⟨G, 0, none⟩) n cap) n xs) (hb : w'.heap[G]? = w.heap[G]?) : w'.ownsRow G e size (.slice (some ⟨G, 0, none⟩) n cap) n xs := by
  refine ⟨h.1, ?_⟩
  rcases h.2 with ⟨h', _⟩ | ⟨g', cap', cur, h', h1, h2, h3⟩
  · simp at h'
  · simp only [Value.slice.injEq, Option.some.injEq, Addr.mk.injEq, and_true, true_and] at h'
    obtain ⟨rfl, rfl⟩ := h'
    exact .inr ⟨_, _, cur, rfl, h1, hb.trans h2, h3⟩

theorem OpRow.of_owns {w : World} {G n cap : Nat} {l : List Int} (h : w.ownsRow G 34 7 (.slice (some ⟨G, 0, none⟩) n cap) n (flatOps l)) : OpRow w G w.heap.size (some ⟨G, 0, none⟩) l := by
  rcases h.2 with ⟨h', _⟩ | ⟨g', cap', cur, h', h1, h2, h3, h4, h5, h6⟩
  · simp at h'
  · simp only [Value.slice.injEq, Option.some.injEq, Addr.mk.injEq, and_true, true_and] at h'
    obtain ⟨rfl, rfl⟩ := h'
    intro j u hu
    have hG := (Array.getElem?_eq_some_iff.1 h2).1
    refine ⟨G, 0, rfl, Nat.le_refl _, hG, hG, ?_⟩
    rw [cell_of_row _ G _ _ 34 (0, 0) h2, Nat.zero_add]
    rw [← h6, List.getElem?_take] at hu
    split at hu
    · simpa using hu
    · cases hu

theorem opCells_one (l : List Int) : ∀ u ∈ flatOps l, u.oneCell' = true := by
  intro u hu
  simp only [flatOps, List.mem_flatMap] at hu
  obtain ⟨z, _, h⟩ := hu
  simp only [opCells, List.mem_cons, List.not_mem_nil, or_false] at h
  rcases h with rfl | rfl | rfl | rfl | rfl | rfl | rfl <;> rfl
theorem flat_take_succ {ms : List (List Int)} {k : Nat} {r : List Int} (h : ms[k]? = some r) : (ms.take (k + 1)).flatten = (ms.take k).flatten ++ r := by
  rw [take_snoc h]; simp
theorem flat_take_le (ms : List (List Int)) (k : Nat) : (ms.take k).flatten.length ≤ ms.flatten.length := by
  have h : ms.flatten = (ms.take k).flatten ++ (ms.drop k).flatten := by rw [← List.flatten_append, List.take_append_drop]
  rw [h, List.length_append]
  omega

/-- what holds as 'all' goes through the blocks -/
structure Drain (w wr : World) (lo bl : Nat) (g n c k : Nat) (ms : List (List Int)) : Prop where
  out : Out lo (bl + 1) w wr
  list : wr.heap[bl]? = some (.cells #[.slice (some ⟨g, 0, none⟩) n c, .int .i64 (ms.flatten.length : Nat)] 52 (0, 0))
  blocks : Blocks wr lo bl (some ⟨g, 0, none⟩) n k ms
  row : wr.ownsRow w.heap.size 34 7 (.slice (some ⟨w.heap.size, 0, none⟩) (ms.take k).flatten.length ms.flatten.length) (ms.take k).flatten.length (flatOps (ms.take k).flatten)

theorem Drain.reads {w wr : World} {lo bl g n c k : Nat} {ms : List (List Int)} (h : Drain w wr lo bl g n c k ms) :
    wr.cell? ⟨bl, 0, none⟩ = some (.slice (some ⟨g, 0, none⟩) n c) ∧ wr.cell? ⟨bl, 1, none⟩ = some (.int .i64 (ms.flatten.length : Nat)) ∧ wr.frozen? ⟨bl, 0, none⟩ = false ∧ wr.frozen? ⟨bl, 1, none⟩ = false := by
  refine ⟨?_, ?_, frozen_of_row _ bl _ _ 52 h.list, frozen_of_row _ bl _ _ 52 h.list⟩
  · rw [cell_of_row _ bl _ _ 52 (0, 0) h.list]; rfl
  · rw [cell_of_row _ bl _ _ 52 (0, 0) h.list]; rfl
theorem Drain.elem {w wr : World} {lo bl g n c k : Nat} {ms : List (List Int)} {r : List Int} (h : Drain w wr lo bl g n c k ms) (hk : k < n) (hr : ms[k]? = some r) :
    ∃ A c', wr.cell? ⟨g, k, none⟩ = some (.slice A r.length c') ∧ wr.frozen? ⟨g, k, none⟩ = false ∧ (A = none → r.length = 0 ∧ c' = 0) ∧ g < bl ∧ lo ≤ g ∧ (∀ ad, A = some ad → ∀ j u, (flatOps r)[j]? = some u → wr.cell? (ad.add j) = some u) := by
  rcases h.blocks with h0 | ⟨g', cur, e, h1, h2, h3, h4, h5⟩
  · omega
  · simp only [Option.some.injEq, Addr.mk.injEq, and_true] at e
    subst e
    obtain ⟨A, c', g1, g2, g3⟩ := h5 k r (Nat.le_refl _) hr
    refine ⟨A, c', ?_, frozen_of_row _ g _ _ 29 h3, g2, h2, h1, ?_⟩
    · rw [cell_of_row _ g _ _ 29 (0, 0) h3]; exact g1
    · intro ad had j u hu
      obtain ⟨b, off, q1, _, _, _, q5⟩ := g3 j u hu
      rw [had] at q1
      obtain rfl := Option.some.inj q1
      rw [Addr.add_lit]
      exact q5
theorem Drain.step {w wr w' : World} {lo bl g n c k : Nat} {ms : List (List Int)} {r : List Int} (h : Drain w wr lo bl g n c k ms) (hlo : lo ≤ g) (hg : g < bl) (hbl : bl < w.heap.size) (hr : ms[k]? = some r)
    (hrow : w'.ownsRow w.heap.size 34 7 (.slice (some ⟨w.heap.size, 0, none⟩) ((ms.take k).flatten.length + r.length) ms.flatten.length) ((ms.take k).flatten.length + r.length) (flatOps (ms.take k).flatten ++ flatOps r))
    (hgr : wr.grownBy w' (some w.heap.size)) (v : Value) : Drain w (w'.setCell ⟨g, k, none⟩ v) lo bl g n c (k + 1) ms := by
  have ho : Out w.heap.size (w.heap.size + 1) wr w' := ⟨hgr.os, hgr.tape, hgr.output, hgr.size, fun j hj hd => hgr.block j hj (by simp; omega)⟩
  have e : (ms.take (k + 1)).flatten = (ms.take k).flatten ++ r := flat_take_succ hr
  refine ⟨(h.out.grown hgr (by intro k hk; simp at hk; omega)).setCell hlo (by simp; omega) _, ?_, ?_, ?_⟩
  · rw [heap_setCell_other _ _ _ _ (by simp; omega)]
    exact (hgr.block bl (Nat.lt_of_lt_of_le hbl h.out.size) (by simp; omega)).trans h.list
  · rcases h.blocks.out ho (by omega) with h0 | ⟨g', cur, e, h1, h2, h3, h4, h5⟩
    · exact .inl h0
    · simp only [Option.some.injEq, Addr.mk.injEq, and_true] at e
      subst e
      refine .inr ⟨g, _, rfl, h1, h2, heap_setCell_same _ g _ _ 29 _ h3, by simpa using h4, fun t r' ht hr' => ?_⟩
      obtain ⟨A, c', g1, g2, g3⟩ := h5 t r' (by omega) hr'
      refine ⟨A, c', by rw [Array.getElem?_setIfInBounds_ne (by omega), g1], g2, fun j u hu => ?_⟩
      obtain ⟨b', off, e1, e2, e3, e4, e5⟩ := g3 j u hu
      refine ⟨b', off, e1, e2, e3, by simpa using e4, ?_⟩
      rw [World.cell?_of_block (w := w') (heap_setCell_other w' _ b' _ (by simp; omega))]
      exact e5
  · rw [e, flatOps_append, List.length_append]
    exact ownsRow_block hrow (heap_setCell_other _ _ _ _ (by simp; omega))

set_option maxRecDepth 100000 in
set_option maxHeartbeats 1000000 in
theorem all18 (w : World) (lo bl : Nat) (ms : List (List Int)) (hL : OpList w lo bl ms) (hN : ms.flatten.length ≤ 65536) (hn2 : ms.length ≤ 4096) :
    Calls Try.prog 18 #[.pointer (some ⟨bl, 0, none⟩)] w fun e w' => ∃ ao' c', e = .returned (.slice ao' ms.flatten.length c') ∧ OpRow w' w.heap.size w'.heap.size ao' ms.flatten ∧ Out lo (bl + 1) w w' ∧ w'.cell? ⟨bl, 1, none⟩ = some (.int .i64 0) := by
  obtain ⟨i0, hi, hz0, hz1, hz2⟩ := info_parts Try.info34
  obtain ⟨ao, n, c, h1, hlo, hn, hB⟩ := hL
  have hbl : bl < w.heap.size := (Array.getElem?_eq_some_iff.1 h1).1
  have q0 : w.cell? ⟨bl, 0, none⟩ = some (.slice ao n c) := by rw [cell_of_row _ bl _ _ 52 (0, 0) h1]; rfl
  have q1 : w.cell? ⟨bl, 1, none⟩ = some (.int .i64 (ms.flatten.length : Nat)) := by rw [cell_of_row _ bl _ _ 52 (0, 0) h1]; rfl
  by_cases hz : ms.flatten.length = 0
  · have q1' : w.cell? ⟨bl, 1, none⟩ = some (.int .i64 0) := by rw [q1, hz]; rfl
    clear q1 h1 hB
    go_enter Try.func18, Try.ntmps18
    go_wp2
    go_ret
    exact ⟨none, 0, by rw [hz]; rfl, fun j u hu => (by rw [List.eq_nil_of_length_eq_zero hz] at hu; simp [flatOps] at hu), Out.refl _, q1'⟩
  · rcases hB with h0 | ⟨g, cur, rfl, hg1, hg2, hg3⟩
    · exact absurd (by rw [List.eq_nil_of_length_eq_zero (hn.trans h0)]; rfl) hz
    obtain ⟨N, hNe⟩ : ∃ N, N = ms.flatten.length := ⟨_, rfl⟩
    rw [← hNe] at q1 hz hN
    replace h1 := hidden h1
    replace hg3 := hidden hg3
    replace hNe := hidden hNe
    have ht : decide ((N : Int) = 0) = false := by simp; omega
    go_enter Try.func18, Try.ntmps18
    go_wp2_with (at_make; refine wpList_make_own _ rfl _ _ 29 rfl w.heap.size 34 i0 _ 7 Try.underlying29 hi hz0 hz1 _ _ _ N rfl rfl ?c0 ?c1 ?c2 ?c3 ?_)
    case c0 => rfl
    case c1 => rw [hz2]; omega
    case c2 => unfold maxLen; omega
    case c3 => exact Nat.le_refl _
    intro w1 hown hgrow
    have hD : Drain w w1 lo bl g n c 0 ms := by
      have e := hNe.out
      subst e
      have hb : Below w.heap.size w w1 := (Below.refl _ _).grown hgrow (Nat.le_refl _) (by simp)
      exact ⟨Out.of_below hb, (hb.block bl hbl).trans h1.out, Blocks.below (.inr ⟨g, cur, rfl, hg1, hg2, hg3.out⟩) hb, by simpa [flatOps] using hown⟩
    clear hown hgrow q0 q1
    obtain ⟨q0, _, _, _⟩ := hD.reads
    replace hD := hidden hD
    go_wp2
    clear q0
    go_loopw [3, 21] (fun s i wr => ∃ k : Nat, k ≤ n ∧ i = .int .i64 k ∧ s = .slice (some ⟨w.heap.size, 0, none⟩) (ms.take k).flatten.length N ∧ Hid (Drain w wr lo bl g n c k ms)) (fun _ i _ => n - (intOf i).toNat)
    case atStart => exact ⟨0, Nat.zero_le _, rfl, by simp, hD⟩
    case round =>
      clear hD
      obtain ⟨k, hk, rfl, rfl, hD⟩ := hrel
      by_cases hlt : k < n
      · obtain ⟨r, hr⟩ : ∃ p, ms[k]? = some p := ⟨ms[k], by simp [hn, hlt]⟩
        obtain ⟨A, c', e1, e2, e3, e4, e5, e6⟩ := hD.out.elem hlt hr
        obtain ⟨p0, p1, _, _⟩ := hD.out.reads
        have hle := flat_take_le ms (k + 1)
        rw [flat_take_succ hr, List.length_append, ← hNe.out] at hle
        obtain ⟨m, hm⟩ : ∃ m, m = (ms.take k).flatten.length := ⟨_, rfl⟩
        have hrow := hD.out.row
        rw [← hm] at hle
        rw [← hm, ← hNe.out] at hrow
        rw [← hm]
        replace hm := hidden hm
        replace hr := hidden hr
        go_wp2_with (at_builtin; refine wpList_append_fits_any _ rfl (.tmp 26) (.tmp 27) 29 rfl w.heap.size 34 i0 7 Try.underlying29 hi hz1 w.heap.size m N _ rfl hrow A r.length c' (flatOps r) rfl (flatOps_length _) e3 e6 (opCells_one _) (by omega) ?_)
        intro w2 hown2 hgrow2
        have hgs : w.heap.size ≤ wr.heap.size := hD.out.out.size
        have kg : w2.heap[g]? = wr.heap[g]? := hgrow2.block g (by omega) (by simp; omega)
        have kb : w2.heap[bl]? = wr.heap[bl]? := hgrow2.block bl (by omega) (by simp; omega)
        have e1' : w2.cell? ⟨g, k, none⟩ = some (.slice A r.length c') := (World.cell?_of_block (a := ⟨g, k, none⟩) kg).trans e1
        have e2' : w2.frozen? ⟨g, k, none⟩ = false := (World.frozen?_of_block (a := ⟨g, k, none⟩) kg).trans e2
        have p0' : w2.cell? ⟨bl, 0, none⟩ = some (.slice (some ⟨g, 0, none⟩) n c) := (World.cell?_of_block (a := ⟨bl, 0, none⟩) kb).trans p0
        have hD' : Drain w (w2.setCell ⟨g, k, none⟩ (.slice none 0 0)) lo bl g n c (k + 1) ms := hD.out.step e5 e4 hbl hr.out (by rw [← hm.out, ← hNe.out]; exact hown2) hgrow2 _
        have hlen : (ms.take (k + 1)).flatten.length = m + r.length := by rw [flat_take_succ hr.out, List.length_append, ← hm.out]
        replace hD' := hidden hD'
        replace hlen := hidden hlen
        clear hown2 hgrow2 kg kb e1 e2 e3 e6 p0 p1 hrow
        go_wp2
        go_roundw
        case rel => exact ⟨k + 1, by omega, by go_num, by rw [hlen.out], hD'⟩
        case measure => simp [intOf]; omega
      · have hkn : k = n := by omega
        obtain ⟨p0, p1, p2, p3⟩ := hD.out.reads
        have hblr : bl < wr.heap.size := Nat.lt_of_lt_of_le hbl hD.out.out.size
        have hfl : (ms.take k).flatten = ms.flatten := by rw [List.take_of_length_le (by omega)]
        have hrow := hD.out.row
        rw [hfl] at hrow
        rw [hfl]
        replace hkn := hidden hkn
        replace hfl := hidden hfl
        replace hrow := hidden hrow
        go_wp2
        go_ret
        refine ⟨some ⟨w.heap.size, 0, none⟩, N, rfl, ?_, (hD.out.out.setCell (by simp; omega) (by simp) _).setCell (by simp; omega) (by simp) _, ?_⟩
        · refine OpRow.of_owns (ownsRow_block hrow.out ?_)
          rw [heap_setCell_other _ _ _ _ (by simp; omega), heap_setCell_other _ _ _ _ (by simp; omega)]
        · have h := heap_setCell_same _ bl 1 _ 52 (.int .i64 0) (heap_setCell_same _ bl 0 _ 52 (.slice none 0 0) hD.out.list)
          rw [cell_of_row _ bl _ _ 52 (0, 0) h]
          simp

set_option maxHeartbeats 400000 in
theorem all18_nil (w : World) (bl : Nat) (q : w.cell? ⟨bl, 1, none⟩ = some (.int .i64 0)) :
    Calls Try.prog 18 #[.pointer (some ⟨bl, 0, none⟩)] w fun e w' => e = .returned (.slice none 0 0) ∧ w' = w := by
  go_enter Try.func18, Try.ntmps18
  go_wp2
  go_ret
  exact ⟨rfl, rfl⟩

set_option maxHeartbeats 400000 in
theorem all9 (w : World) (lo bl : Nat) (ms : List (List Int)) (N : Nat) (hNe : ms.flatten.length = N) (hL : OpList w lo bl ms) (hN : N ≤ 65536) (hn2 : ms.length ≤ 4096) :
    Calls Try.prog 9 #[.pointer (some ⟨bl, 0, none⟩)] w fun e w' => ∃ ao' c', e = .returned (.slice ao' N c') ∧ OpRow w' w.heap.size w'.heap.size ao' ms.flatten ∧ Out lo (bl + 1) w w' ∧ w'.cell? ⟨bl, 1, none⟩ = some (.int .i64 0) := by
  have H := all18 w lo bl ms hL (by omega) hn2
  rw [hNe] at H
  clear hL
  replace hNe := hidden hNe
  go_enter Try.func9, Try.ntmps9
  go_wp2_with fail
  refine H.mono ?_
  rintro e w' ⟨ao', c', rfl, h1, h2, h3⟩
  replace h1 := hidden h1
  replace h3 := hidden h3
  go_wp2
  go_ret
  exact ⟨_, _, rfl, h1.out, h2, h3.out⟩

set_option maxHeartbeats 400000 in
theorem all9_nil (w : World) (bl : Nat) (q : w.cell? ⟨bl, 1, none⟩ = some (.int .i64 0)) :
    Calls Try.prog 9 #[.pointer (some ⟨bl, 0, none⟩)] w fun e w' => e = .returned (.slice none 0 0) ∧ w' = w := by
  go_enter Try.func9, Try.ntmps9
  go_wp2_with fail
  refine (all18_nil w bl q).mono ?_
  rintro e w' ⟨rfl, rfl⟩
  go_wp2
  go_ret
  exact ⟨rfl, rfl⟩
end Go.Proofs.Qxb6608766a

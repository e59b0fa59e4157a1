import Derived.Test.Qxb6608766aRows
import Derived.WalkKit
import Derived.WalkSpells
import Derived.WalkLawsBesides
import Derived.Laws.Pointers
import Derived.Deep.QuietTactic
import Derived.BigQuiet
import Derived.RegionTactic
namespace Go.Proofs.Qxb6608766a
open Go.RowKit

theorem hidden {p : Prop} (h : p) : Hid p := h

/-! ### the argument: a slice of slices of integers -/
def IntRow (w : World) (ao : Option Addr) (l : List Int) : Prop :=
  ∀ k z, l[k]? = some z → ∃ b off, ao = some ⟨b, off, none⟩ ∧ b < w.heap.size ∧ w.cell? ⟨b, off + k, none⟩ = some (.int .i64 z)
theorem IntRow.below {w w' : World} {ao : Option Addr} {l : List Int} (h : IntRow w ao l) (hb : Below w.heap.size w w') : IntRow w' ao l := by
  intro k b hk
  obtain ⟨g, off, h1, h2, h3⟩ := h k b hk
  exact ⟨g, off, h1, Nat.lt_of_lt_of_le h2 hb.size, (hb.cell (p := ⟨g, _, none⟩) h2).trans h3⟩

def Mat (w : World) (ao : Option Addr) (ms : List (List Int)) : Prop :=
  ∀ k r, ms[k]? = some r → ∃ b off A c, ao = some ⟨b, off, none⟩ ∧ b < w.heap.size ∧ w.cell? ⟨b, off + k, none⟩ = some (.slice A r.length c) ∧ IntRow w A r
theorem Mat.below {w w' : World} {ao : Option Addr} {ms : List (List Int)} (h : Mat w ao ms) (hb : Below w.heap.size w w') : Mat w' ao ms := by
  intro k r hk
  obtain ⟨b, off, A, c, h1, h2, h3, h4⟩ := h k r hk
  exact ⟨b, off, A, c, h1, Nat.lt_of_lt_of_le h2 hb.size, (hb.cell (p := ⟨b, _, none⟩) h2).trans h3, h4.below hb⟩

/-! ### operations in memory: seven cells each -/
def opCells (z : Int) : List Value := [.int .u8 1, .bool false, .bool false, .int .i64 z, .string ⟨#[]⟩, .int .i64 0, .pointer none]
def flatOps (l : List Int) : List Value := l.flatMap opCells
theorem flatOps_append (l m : List Int) : flatOps (l ++ m) = flatOps l ++ flatOps m := by simp [flatOps]
theorem flatOps_length (l : List Int) : (flatOps l).length = l.length * 7 := by
  induction l with
  | nil => rfl
  | cons a t ih =>
    have e : flatOps (a :: t) = opCells a ++ flatOps t := by simp [flatOps]
    have e2 : (opCells a).length = 7 := rfl
    rw [e, List.length_append, ih, List.length_cons, e2]
    omega
theorem flatOps_at (l : List Int) : ∀ k z t u, l[k]? = some z → (opCells z)[t]? = some u → (flatOps l)[k * 7 + t]? = some u := by
  induction l with
  | nil => intro k z t u h; simp at h
  | cons a l ih =>
    intro k z t u h hu
    have e : flatOps (a :: l) = opCells a ++ flatOps l := by simp [flatOps]
    have e2 : (opCells a).length = 7 := rfl
    rw [e]
    cases k with
    | zero =>
      simp at h
      subst h
      have hlt : t < 7 := (List.getElem?_eq_some_iff.1 hu).1
      rw [List.getElem?_append_left (by omega)]
      simpa using hu
    | succ k =>
      have := ih k z t u (by simpa using h) hu
      rw [List.getElem?_append_right (by omega), e2, show (k + 1) * 7 + t - 7 = k * 7 + t by omega]
      exact this

/-- a slice of operations, one for each number of l, its cells in a block of [lo, hi) -/
def OpRow (w : World) (lo hi : Nat) (ao : Option Addr) (l : List Int) : Prop :=
  ∀ j u, (flatOps l)[j]? = some u → ∃ b off, ao = some ⟨b, off, none⟩ ∧ lo ≤ b ∧ b < hi ∧ b < w.heap.size ∧ w.cell? ⟨b, off + j, none⟩ = some u

/-- w' is w but for blocks in [lo, hi) and new ones -/
structure Out (lo hi : Nat) (w w' : World) : Prop where
  os : w'.os = w.os
  tape : w'.tape = w.tape
  output : w'.output = w.output
  size : w.heap.size ≤ w'.heap.size
  block : ∀ k, k < w.heap.size → (k < lo ∨ hi ≤ k) → w'.heap[k]? = w.heap[k]?

theorem Out.below {lo hi B : Nat} {w w' : World} (h : Out lo hi w w') (hB : B ≤ lo) (hs : B ≤ w.heap.size) : Below B w w' := ⟨h.os, h.tape, h.output, h.size, fun k hk => h.block k (by omega) (by omega)⟩
theorem Out.of_below {lo hi : Nat} {w w' : World} (h : Below w.heap.size w w') : Out lo hi w w' := ⟨h.os, h.tape, h.output, h.size, fun k hk _ => h.block k hk⟩

theorem OpRow.out {w w' : World} {lo hi lo' hi' : Nat} {ao : Option Addr} {l : List Int} (h : OpRow w lo hi ao l) (ho : Out lo' hi' w w') (hd : hi ≤ lo' ∨ hi' ≤ lo) : OpRow w' lo hi ao l := by
  intro j u hu
  obtain ⟨b, off, h1, h2, h3, h4, h5⟩ := h j u hu
  exact ⟨b, off, h1, h2, h3, Nat.lt_of_lt_of_le h4 ho.size, (World.cell?_of_block (a := ⟨b, off + j, none⟩) (ho.block b h4 (by omega))).trans h5⟩
theorem OpRow.below {w w' : World} {lo hi : Nat} {ao : Option Addr} {l : List Int} (h : OpRow w lo hi ao l) (hb : Below w.heap.size w w') : OpRow w' lo hi ao l := by
  intro j u hu
  obtain ⟨b, off, h1, h2, h3, h4, h5⟩ := h j u hu
  exact ⟨b, off, h1, h2, h3, Nat.lt_of_lt_of_le h4 hb.size, (hb.cell (p := ⟨b, _, none⟩) h4).trans h5⟩
theorem OpRow.wide {w : World} {lo hi lo' hi' : Nat} {ao : Option Addr} {l : List Int} (h : OpRow w lo hi ao l) (h1 : lo' ≤ lo) (h2 : hi ≤ hi') : OpRow w lo' hi' ao l := by
  intro j u hu
  obtain ⟨b, off, g1, g2, g3, g4, g5⟩ := h j u hu
  exact ⟨b, off, g1, by omega, by omega, g4, g5⟩

/-- the blocks of an operation list: a row of slices of operations, all in blocks of [lo, hi) -/
def Blocks (w : World) (lo hi : Nat) (ao : Option Addr) (n k : Nat) (ms : List (List Int)) : Prop :=
  (n = 0) ∨ ∃ g cur, ao = some ⟨g, 0, none⟩ ∧ lo ≤ g ∧ g < hi ∧ w.heap[g]? = some (.cells cur 29 (0, 0)) ∧ cur.size = n ∧
    (∀ t r, k ≤ t → ms[t]? = some r → ∃ A c, cur[t]? = some (.slice A r.length c) ∧ (A = none → r.length = 0 ∧ c = 0) ∧ OpRow w (g + 1) hi A r)

theorem Blocks.out {w w' : World} {lo hi lo' hi' n k : Nat} {ao : Option Addr} {ms : List (List Int)} (h : Blocks w lo hi ao n k ms) (ho : Out lo' hi' w w') (hd : hi ≤ lo' ∨ hi' ≤ lo) : Blocks w' lo hi ao n k ms := by
  rcases h with h | ⟨g, cur, h1, h2, h3, h4, h5, h6⟩
  · exact .inl h
  · refine .inr ⟨g, cur, h1, h2, h3, (ho.block g (Array.getElem?_eq_some_iff.1 h4).1 (by omega)).trans h4, h5, fun t r ht hr => ?_⟩
    obtain ⟨A, c, g1, g2, g3⟩ := h6 t r ht hr
    exact ⟨A, c, g1, g2, g3.out ho (by omega)⟩
theorem Blocks.below {w w' : World} {lo hi n k : Nat} {ao : Option Addr} {ms : List (List Int)} (h : Blocks w lo hi ao n k ms) (hb : Below w.heap.size w w') : Blocks w' lo hi ao n k ms := by
  rcases h with h | ⟨g, cur, h1, h2, h3, h4, h5, h6⟩
  · exact .inl h
  · refine .inr ⟨g, cur, h1, h2, h3, (hb.block g (Array.getElem?_eq_some_iff.1 h4).1).trans h4, h5, fun t r ht hr => ?_⟩
    obtain ⟨A, c, g1, g2, g3⟩ := h6 t r ht hr
    exact ⟨A, c, g1, g2, g3.below hb⟩

theorem take_snoc {α : Type} {l : List α} {k : Nat} {z : α} (h : l[k]? = some z) : l.take (k + 1) = l.take k ++ [z] := by
  obtain ⟨hk, he⟩ := List.getElem?_eq_some_iff.1 h
  rw [List.take_succ_eq_append_getElem hk, he]

theorem OpRow.under {w w' : World} {lo hi : Nat} {ao : Option Addr} {l : List Int} (h : OpRow w lo hi ao l) (hb : Below hi w w') : OpRow w' lo hi ao l := by
  intro j u hu
  obtain ⟨b, off, h1, h2, h3, h4, h5⟩ := h j u hu
  exact ⟨b, off, h1, h2, h3, Nat.lt_of_lt_of_le h4 hb.size, (hb.cell (p := ⟨b, _, none⟩) h3).trans h5⟩

/-- the row of blocks that buildBlocks fills, its first k done -/
def Built (w : World) (hi g n k : Nat) (ms : List (List Int)) : Prop :=
  ∃ cur, w.heap[g]? = some (.cells cur 29 (0, 0)) ∧ cur.size = n ∧ g < hi ∧
    (∀ t r, t < k → ms[t]? = some r → ∃ A c, cur[t]? = some (.slice A r.length c) ∧ (A = none → r.length = 0 ∧ c = 0) ∧ OpRow w (g + 1) hi A r) ∧
    (∀ t, k ≤ t → t < n → cur[t]? = some (.slice none 0 0))

theorem Built.under {w w' : World} {hi g n k : Nat} {ms : List (List Int)} (h : Built w hi g n k ms) (hb : Below hi w w') : Built w' hi g n k ms := by
  obtain ⟨cur, h1, h2, h3, h4, h5⟩ := h
  refine ⟨cur, (hb.block g h3).trans h1, h2, h3, fun t r ht hr => ?_, h5⟩
  obtain ⟨A, c, g1, g2, g3⟩ := h4 t r ht hr
  exact ⟨A, c, g1, g2, g3.under hb⟩
theorem Built.wide {w : World} {hi hi' g n k : Nat} {ms : List (List Int)} (h : Built w hi g n k ms) (hh : hi ≤ hi') : Built w hi' g n k ms := by
  obtain ⟨cur, h1, h2, h3, h4, h5⟩ := h
  refine ⟨cur, h1, h2, by omega, fun t r ht hr => ?_, h5⟩
  obtain ⟨A, c, g1, g2, g3⟩ := h4 t r ht hr
  exact ⟨A, c, g1, g2, g3.wide (Nat.le_refl _) hh⟩
theorem Built.skip {w : World} {hi g n k : Nat} {ms : List (List Int)} (h : Built w hi g n k ms) (hk : k < n) (hr : ms[k]? = some []) : Built w hi g n (k + 1) ms := by
  obtain ⟨cur, h1, h2, h3, h4, h5⟩ := h
  refine ⟨cur, h1, h2, h3, fun t r ht htr => ?_, fun t ht => h5 t (by omega)⟩
  by_cases e : t = k
  · subst e
    rw [hr] at htr
    obtain rfl := Option.some.inj htr
    exact ⟨none, 0, h5 t (Nat.le_refl _) hk, fun _ => ⟨rfl, rfl⟩, fun j u hu => by simp [flatOps] at hu⟩
  · exact h4 t r (by omega) htr
theorem Built.store {w : World} {hi g n k : Nat} {ms : List (List Int)} {r : List Int} {b c : Nat} (h : Built w hi g n k ms) (hk : k < n) (hr : ms[k]? = some r) (ho : OpRow w (g + 1) hi (some ⟨b, 0, none⟩) r) :
    Built (w.setCell ⟨g, k, none⟩ (.slice (some ⟨b, 0, none⟩) r.length c)) hi g n (k + 1) ms := by
  obtain ⟨cur, h1, h2, h3, h4, h5⟩ := h
  have hkeep : ∀ {A : Option Addr} {l : List Int}, OpRow w (g + 1) hi A l → OpRow (w.setCell ⟨g, k, none⟩ (.slice (some ⟨b, 0, none⟩) r.length c)) (g + 1) hi A l := by
    intro A l hA j u hu
    obtain ⟨b', off, e1, e2, e3, e4, e5⟩ := hA j u hu
    refine ⟨b', off, e1, e2, e3, by simpa using e4, ?_⟩
    rw [World.cell?_of_block (w := w) (heap_setCell_other w _ b' _ (by simp; omega))]
    exact e5
  refine ⟨_, heap_setCell_same _ g _ _ 29 _ h1, by simpa using h2, h3, fun t r' ht htr => ?_, fun t ht htn => ?_⟩
  · by_cases e : t = k
    · subst e
      rw [hr] at htr
      obtain rfl := Option.some.inj htr
      exact ⟨_, _, Array.getElem?_setIfInBounds_self_of_lt (by omega), fun h => (nomatch h), hkeep ho⟩
    · obtain ⟨A, c', g1, g2, g3⟩ := h4 t r' (by omega) htr
      exact ⟨A, c', by rw [Array.getElem?_setIfInBounds_ne (by omega), g1], g2, hkeep g3⟩
  · rw [Array.getElem?_setIfInBounds_ne (by omega)]
    exact h5 t (by omega) htn
theorem Built.cellAt {w : World} {hi g n k : Nat} {ms : List (List Int)} (h : Built w hi g n k ms) (hk : k < n) : (∃ v, w.cell? ⟨g, k, none⟩ = some v) ∧ w.frozen? ⟨g, k, none⟩ = false := by
  obtain ⟨cur, h1, h2, _⟩ := h
  refine ⟨⟨cur[k], ?_⟩, frozen_of_row w g _ cur 29 h1⟩
  rw [cell_of_row w g _ cur 29 (0, 0) h1]; simp
theorem Built.blocks {w : World} {lo hi g n : Nat} {ms : List (List Int)} (h : Built w hi g n n ms) (hn : ms.length = n) (hlo : lo ≤ g) : Blocks w lo hi (some ⟨g, 0, none⟩) n 0 ms := by
  obtain ⟨cur, h1, h2, h3, h4, _⟩ := h
  exact .inr ⟨g, cur, rfl, hlo, h3, h1, h2, fun t r _ htr => h4 t r (by have := (List.getElem?_eq_some_iff.1 htr).1; omega) htr⟩
theorem Built.start {w : World} {g n : Nat} {ms : List (List Int)} {cells : List Value} (h : w.ownsRow g 29 1 (.slice (some ⟨g, 0, none⟩) n n) n cells) (hc : cells = List.replicate n (.slice none 0 0)) : Built w w.heap.size g n 0 ms := by
  rcases h.2 with ⟨h', _⟩ | ⟨g', cap', cur, h', _, hg, _, _, hcs, ht⟩
  · simp at h'
  · simp only [Value.slice.injEq, Option.some.injEq, Addr.mk.injEq, and_true, true_and] at h'
    obtain ⟨rfl, rfl⟩ := h'
    refine ⟨cur, hg, by omega, (Array.getElem?_eq_some_iff.1 hg).1, fun t r ht => by omega, fun t _ htn => ?_⟩
    have e : cur.toList = cells := by rw [← ht, List.take_of_length_le (by simp; omega)]
    rw [← Array.getElem?_toList, e, hc]
    simp [htn]

/-- a row of operations that is being filled, its first k done -/
def FilledOps (w : World) (g n k : Nat) (r : List Int) : Prop :=
  ∃ cur, w.heap[g]? = some (.cells cur 34 (0, 0)) ∧ cur.size = n * 7 ∧ ∀ j u, j < k * 7 → (flatOps r)[j]? = some u → cur[j]? = some u
theorem FilledOps.row {w : World} {lo g n : Nat} {r : List Int} (hn : r.length = n) (h : FilledOps w g n n r) (hlo : lo ≤ g) : OpRow w lo w.heap.size (some ⟨g, 0, none⟩) r := by
  obtain ⟨cur, h1, h2, h3⟩ := h
  intro j u hu
  have hj := (List.getElem?_eq_some_iff.1 hu).1
  rw [flatOps_length] at hj
  refine ⟨g, 0, rfl, hlo, (Array.getElem?_eq_some_iff.1 h1).1, (Array.getElem?_eq_some_iff.1 h1).1, ?_⟩
  rw [cell_of_row w g _ cur 34 (0, 0) h1, Nat.zero_add]
  exact h3 j u (by omega) hu
theorem FilledOps.start {w : World} {g n : Nat} {r : List Int} {cells : List Value} (h : w.ownsRow g 34 7 (.slice (some ⟨g, 0, none⟩) n n) n cells) : FilledOps w g n 0 r := by
  rcases h.2 with ⟨h', _⟩ | ⟨g', cap', cur, h', _, hg, _, _, hcs, _⟩
  · simp at h'
  · simp only [Value.slice.injEq, Option.some.injEq, Addr.mk.injEq, and_true, true_and] at h'
    obtain ⟨rfl, rfl⟩ := h'
    exact ⟨cur, hg, hcs, fun j p hj => by omega⟩
theorem FilledOps.cellAt {w : World} {g n k : Nat} {r : List Int} (h : FilledOps w g n k r) (hk : k < n) (t : Nat) (ht : t < 7) : (∃ v, w.cell? ⟨g, k * 7 + t, none⟩ = some v) ∧ w.frozen? ⟨g, k * 7 + t, none⟩ = false := by
  obtain ⟨cur, h1, h2, _⟩ := h
  refine ⟨⟨cur[k * 7 + t]'(by omega), ?_⟩, frozen_of_row w g _ cur 34 h1⟩
  rw [cell_of_row w g _ cur 34 (0, 0) h1]; simp
theorem FilledOps.under {w w' : World} {g n k : Nat} {r : List Int} (h : FilledOps w g n k r) (hb : Below w.heap.size w w') : FilledOps w' g n k r := by
  obtain ⟨cur, h1, h2, h3⟩ := h
  exact ⟨cur, (hb.block g (Array.getElem?_eq_some_iff.1 h1).1).trans h1, h2, h3⟩
end Go.Proofs.Qxb6608766a

import Derived.Test.Qxb6609009aLkBase
namespace Go.Proofs.Qxb6609009a
open Go.RowKit

theorem Try.info34 : (Try.prog.info? 34).map (fun i => (i.zero, i.size, i.bytes)) = some (some (.agg #[.string ⟨#[]⟩, .string ⟨#[]⟩]), 2, 32) := by kernel_rfl

/-- the row that toTagArgs fills, its first k elements being xs's -/
def Filled (wr : World) (B n k : Nat) (xs : List (ByteArray × ByteArray)) : Prop :=
  ∃ cur, wr.heap[B]? = some (.cells cur 34 (0, 0)) ∧ cur.size = n * 2 ∧ ∀ j p, j < k → xs[j]? = some p → cur[j * 2]? = some (.string p.1) ∧ cur[j * 2 + 1]? = some (.string p.2)

theorem Filled.cellsAt {wr : World} {B n k : Nat} {xs : List (ByteArray × ByteArray)} (h : Filled wr B n k xs) (hk : k < n) :
    (∃ v, wr.cell? ⟨B, k * 2, none⟩ = some v) ∧ (∃ v, wr.cell? ⟨B, k * 2 + 1, none⟩ = some v) ∧ wr.frozen? ⟨B, k * 2, none⟩ = false ∧ wr.frozen? ⟨B, k * 2 + 1, none⟩ = false := by
  obtain ⟨cur, hh, hs, _⟩ := h
  refine ⟨⟨cur[k * 2]'(by omega), ?_⟩, ⟨cur[k * 2 + 1]'(by omega), ?_⟩, frozen_of_row wr B _ cur 34 hh, frozen_of_row wr B _ cur 34 hh⟩
  · rw [cell_of_row wr B _ cur 34 (0, 0) hh]; simp
  · rw [cell_of_row wr B _ cur 34 (0, 0) hh]; simp

theorem Filled.step {wr : World} {B n k : Nat} {xs : List (ByteArray × ByteArray)} {s0 s1 : ByteArray} (h : Filled wr B n k xs) (hk : k < n) (hp : xs[k]? = some (s0, s1)) :
    Filled ((wr.setCell ⟨B, k * 2, none⟩ (.string s0)).setCell ⟨B, k * 2 + 1, none⟩ (.string s1)) B n (k + 1) xs := by
  obtain ⟨cur, hh, hs, hf⟩ := h
  refine ⟨_, heap_setCell_same _ B _ _ 34 _ (heap_setCell_same _ B _ _ 34 _ hh), by simpa using hs, ?_⟩
  intro j p hj hjp
  by_cases e : j = k
  · subst e
    rw [hp] at hjp
    obtain rfl := Option.some.inj hjp
    constructor
    · rw [Array.getElem?_setIfInBounds_ne (by omega), Array.getElem?_setIfInBounds_self_of_lt (by omega)]
    · rw [Array.getElem?_setIfInBounds_self_of_lt (by simp; omega)]
  · obtain ⟨e0, e1⟩ := hf j p (by omega) hjp
    constructor
    · rw [Array.getElem?_setIfInBounds_ne (by omega), Array.getElem?_setIfInBounds_ne (by omega), e0]
    · rw [Array.getElem?_setIfInBounds_ne (by omega), Array.getElem?_setIfInBounds_ne (by omega), e1]

theorem Filled.lies {wr : World} {B n : Nat} {xs : List (ByteArray × ByteArray)} (hn : xs.length = n) (h : Filled wr B n n xs) : Lies wr (some ⟨B, 0, none⟩) xs := by
  obtain ⟨cur, hh, hs, hf⟩ := h
  intro k p hp
  have hk : k < n := by have := (List.getElem?_eq_some_iff.1 hp).1; omega
  obtain ⟨e0, e1⟩ := hf k p hk hp
  refine ⟨B, 0, rfl, (Array.getElem?_eq_some_iff.1 hh).1, ?_, ?_⟩
  · rw [cell_of_row wr B _ cur 34 (0, 0) hh]; simpa using e0
  · rw [cell_of_row wr B _ cur 34 (0, 0) hh]; simpa using e1

theorem Filled.start {wr : World} {B n : Nat} {cells : List Value} {xs : List (ByteArray × ByteArray)} (h : wr.ownsRow B 34 2 (.slice (some ⟨B, 0, none⟩) n n) n cells) : Filled wr B n 0 xs := by
  rcases h.2 with ⟨h', _⟩ | ⟨g', cap', cur, h', _, hg, _, _, hcs, _⟩
  · simp at h'
  · simp only [Value.slice.injEq, Option.some.injEq, Addr.mk.injEq, and_true, true_and] at h'
    obtain ⟨rfl, rfl⟩ := h'
    exact ⟨cur, hg, hcs, fun j p hj => by omega⟩

set_option maxHeartbeats 400000 in
theorem toTag_some (a : Addr) (n cap : Nat) (xs : List (ByteArray × ByteArray)) (hn : xs.length = n) (hn2 : n ≤ 100000) (w : World) (hl : Lies w (some a) xs) :
    Calls Try.prog 8 #[.slice (some a) n cap] w fun e w' => ∃ ao' cap', e = .returned (.slice ao' n cap') ∧ Lies w' ao' xs ∧ Below w.heap.size w w' := by
  obtain ⟨i0, hi, hz0, hz1, hz2⟩ := info_parts Try.info34
  have hq : ∀ (w : World) (a : Option Addr) (n c n' c' : Nat), (binOp .eql 22 (.slice a n c) (.slice none n' c')).run Try.prog w = .ok (.bool a.isNone) w := fun w a n c n' c' => Lib.run_eql_slice_nil w _ _ a n c n' c' Try.underlying22
  go_enter Try.func8, Try.ntmps8
  go_wp2_with (at_make; refine wpList_make_full _ rfl _ _ 27 rfl w.heap.size 34 i0 _ 2 Try.underlying27 hi hz0 hz1 _ _ _ _ n rfl rfl rfl rfl ?c1 ?c2 ?c3 ?_)
  case c1 => rw [hz2]; omega
  case c2 => unfold maxLen; omega
  case c3 => exact Nat.le_refl _
  intro w1 hown hgrow
  have hF := Filled.start (xs := xs) hown
  have hB : Below w.heap.size w w1 := (Below.refl _ _).grown hgrow (Nat.le_refl _) (by simp)
  clear hown hgrow
  go_wp2
  go_loopw [4] (fun i wr => ∃ k : Nat, k ≤ n ∧ i = .int .i64 k ∧ Below w.heap.size w wr ∧ Filled wr w.heap.size n k xs) (fun i _ => n - (intOf i).toNat)
  case atStart => exact ⟨0, Nat.zero_le _, rfl, hB, hF⟩
  case round =>
    clear hF hB
    obtain ⟨k, hk, rfl, hb, hF⟩ := hrel
    by_cases hlt : k < n
    · obtain ⟨⟨s0, s1⟩, hp⟩ : ∃ p, xs[k]? = some p := ⟨xs[k], by simp [hn, hlt]⟩
      obtain ⟨b, off, hao, hbs, e0, e1⟩ := hl k _ hp
      have HP : Hid (xs[k]? = some (s0, s1)) := hp
      clear hp
      obtain rfl := Option.some.inj hao
      have e0' : wr.cell? ⟨b, off + k * 2, none⟩ = some (.string s0) := (hb.cell (p := ⟨b, _, none⟩) hbs).trans e0
      have e1' : wr.cell? ⟨b, off + k * 2 + 1, none⟩ = some (.string s1) := (hb.cell (p := ⟨b, _, none⟩) hbs).trans e1
      obtain ⟨⟨v0, d0⟩, ⟨v1, d1⟩, f0, f1⟩ := hF.cellsAt hlt
      clear e0 e1 hao
      go_wp2
      go_region
      go_wp2
      have hF' := hF.step hlt HP.out
      go_roundw
      case rel => exact ⟨k + 1, by omega, by go_num, ((hb.setCell (Nat.le_refl _) _).setCell (Nat.le_refl _) _).drew, hF'⟩
      case measure => simp [intOf]; omega
    · have hkn : k = n := by omega
      have hF' : Filled wr w.heap.size n n xs := by rw [← hkn]; rw [← hkn] at hF; exact hF
      have hL := hF'.lies hn
      clear hkn hF hF'
      go_wp2
      go_ret
      exact ⟨_, _, rfl, hL, hb⟩

set_option maxHeartbeats 400000 in
theorem toTag_any (ao : Option Addr) (n cap : Nat) (xs : List (ByteArray × ByteArray)) (hn : xs.length = n) (hn2 : n ≤ 100000) (w : World) (hl : Lies w ao xs) :
    Calls Try.prog 8 #[.slice ao n cap] w fun e w' => ∃ ao' cap', e = .returned (.slice ao' n cap') ∧ Lies w' ao' xs ∧ Below w.heap.size w w' := by
  cases ao with
  | some a => exact toTag_some a n cap xs hn hn2 w hl
  | none =>
    have hxs : xs = [] := by
      cases xs with
      | nil => rfl
      | cons p t => obtain ⟨_, _, h, _⟩ := hl 0 p rfl; cases h
    subst hxs
    obtain rfl : 0 = n := hn
    have hq : ∀ (w : World) (a : Option Addr) (n c n' c' : Nat), (binOp .eql 22 (.slice a n c) (.slice none n' c')).run Try.prog w = .ok (.bool a.isNone) w := fun w a n c n' c' => Lib.run_eql_slice_nil w _ _ a n c n' c' Try.underlying22
    go_enter Try.func8, Try.ntmps8
    go_wp2
    go_ret
    exact ⟨_, _, rfl, hl, Below.refl _ _⟩
end Go.Proofs.Qxb6609009a

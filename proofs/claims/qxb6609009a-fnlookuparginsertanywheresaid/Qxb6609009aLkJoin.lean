import Derived.Test.Qxb6609009aLkTo
namespace Go.Proofs.Qxb6609009a
open Go.RowKit

def flat (l : List (ByteArray × ByteArray)) : List Value := l.flatMap fun p => [.string p.1, .string p.2]
theorem flat_snoc (l : List (ByteArray × ByteArray)) (s0 s1 : ByteArray) : flat (l ++ [(s0, s1)]) = flat l ++ [.string s0, .string s1] := by simp [flat]
theorem flat_length (l : List (ByteArray × ByteArray)) : (flat l).length = l.length * 2 := by
  induction l with
  | nil => rfl
  | cons a t ih => simp only [flat, List.flatMap_cons, List.length_append, List.length_cons, List.length_nil] at ih ⊢; omega
theorem flat_at (l : List (ByteArray × ByteArray)) : ∀ k p, l[k]? = some p → (flat l)[k * 2]? = some (.string p.1) ∧ (flat l)[k * 2 + 1]? = some (.string p.2) := by
  induction l with
  | nil => intro k p h; simp at h
  | cons a t ih =>
    intro k p h
    cases k with
    | zero => simp at h; subst h; simp [flat]
    | succ k =>
      have := ih k p (by simpa using h)
      simp only [flat, List.flatMap_cons, List.cons_append, List.nil_append] at this ⊢
      rw [show (k + 1) * 2 = k * 2 + 1 + 1 by omega]
      simpa using this

/-- what joinArgs has gathered -/
def Got (w wr : World) (B N m : Nat) (l : List (ByteArray × ByteArray)) : Prop :=
  wr.ownsRow B 34 2 (.slice (some ⟨B, 0, none⟩) m N) m (flat l) ∧ Below B w wr ∧ B < wr.heap.size

theorem Got.step {w wr w1 : World} {B N m : Nat} {o : Obj} {l : List (ByteArray × ByteArray)} {s0 s1 : ByteArray} (h : Got w wr B N m l)
    (hown : w1.ownsRow B 34 2 (.slice (some ⟨B, 0, none⟩) (m + 1) N) (m + 1) (flat l ++ [.string s0, .string s1])) (hg : (wr.alloc o).grownBy w1 (some B)) : Got w w1 B N (m + 1) (l ++ [(s0, s1)]) := by
  have hs := hg.size
  simp at hs
  have := h.2.2
  exact ⟨by rw [flat_snoc]; exact hown, (h.2.1.alloc (by omega) _).grown hg (by simp; omega) (by simp), by omega⟩

theorem Got.lies {w wr : World} {B N m : Nat} {l : List (ByteArray × ByteArray)} (hl : l.length = m) (h : Got w wr B N m l) : Lies wr (some ⟨B, 0, none⟩) l := by
  intro k p hp
  have hk : k < l.length := (List.getElem?_eq_some_iff.1 hp).1
  obtain ⟨e0, e1⟩ := flat_at l k p hp
  refine ⟨B, 0, rfl, h.2.2, ?_, ?_⟩
  · rw [h.1.cellAt _ (by omega)]; simpa using e0
  · rw [h.1.cellAt _ (by omega)]; simpa using e1

theorem new_two (w : World) (s0 s1 : ByteArray) : ∀ j u, ([.string s0, .string s1] : List Value)[j]? = some u → (w.alloc (.cells #[.string s0, .string s1] 34)).cell? ((⟨w.heap.size, 0, none⟩ : Addr).add j) = some u := by
  intro j u hj
  match j, hj with
  | 0, hj => simp at hj; subst hj; simp [Addr.add]
  | 1, hj => simp at hj; subst hj; simp [Addr.add]
theorem one_two (s0 s1 : ByteArray) : ∀ u ∈ ([.string s0, .string s1] : List Value), u.oneCell' = true := by
  intro u hu
  simp at hu
  rcases hu with rfl | rfl <;> rfl

set_option maxHeartbeats 1000000 in
theorem join_any (a0 a1 a2 : Option Addr) (n0 n1 n2 c0 c1 c2 : Nat) (xs ys zs : List (ByteArray × ByteArray)) (h0 : xs.length = n0) (h1 : ys.length = n1) (h2 : zs.length = n2)
    (b0 : n0 ≤ 100000) (b1 : n1 ≤ 100000) (b2 : n2 ≤ 100000) (w : World) (l0 : Lies w a0 xs) (l1 : Lies w a1 ys) (l2 : Lies w a2 zs) :
    Calls Try.prog 9 #[.slice a0 n0 c0, .slice a1 n1 c1, .slice a2 n2 c2] w fun e w' => ∃ ao' cap', e = .returned (.slice ao' (n0 + n1 + n2) cap') ∧ Lies w' ao' (xs ++ ys ++ zs) ∧ Below w.heap.size w w' := by
  obtain ⟨i0, hi, hz0, hz1, hz2⟩ := info_parts Try.info34
  go_enter Try.func9, Try.ntmps9
  go_wp2_with (at_make; refine wpList_make_own _ rfl _ _ 27 rfl w.heap.size 34 i0 _ 2 Try.underlying27 hi hz0 hz1 _ _ _ (n0 + n1 + n2) rfl rfl ?c1 ?c2 ?c3 ?c4 ?_)
  case c1 => omega
  case c2 => rw [hz2]; omega
  case c3 => unfold maxLen; omega
  case c4 => exact Nat.le_refl _
  intro w1 hown hgrow
  have hG : Got w w1 w.heap.size (n0 + n1 + n2) 0 [] := ⟨hown, (Below.refl _ _).grown hgrow (Nat.le_refl _) (by simp), (hown.lt _ rfl).2⟩
  clear hown hgrow
  go_wp2
  go_loopw [7, 8] (fun o i wr => ∃ k : Nat, k ≤ n0 ∧ i = .int .i64 k ∧ o = .slice (some ⟨w.heap.size, 0, none⟩) k (n0 + n1 + n2) ∧ Got w wr w.heap.size (n0 + n1 + n2) k (xs.take k)) (fun _ i _ => n0 - (intOf i).toNat)
  case atStart => exact ⟨0, Nat.zero_le _, rfl, rfl, hG⟩
  case round =>
    clear hG
    obtain ⟨k, hk, rfl, rfl, hG⟩ := hrel
    by_cases hlt : k < n0
    · obtain ⟨⟨s0, s1⟩, hp⟩ : ∃ p, xs[k]? = some p := ⟨xs[k], by simp [h0, hlt]⟩
      obtain ⟨b, off, hao, hbs, e0, e1⟩ := l0 k _ hp
      have HP : Hid (xs[k]? = some (s0, s1)) := hp
      clear hp
      subst hao
      have e0' : wr.cell? ⟨b, off + k * 2, none⟩ = some (.string s0) := (hG.2.1.cell (p := ⟨b, _, none⟩) hbs).trans e0
      have e1' : wr.cell? ⟨b, off + k * 2 + 1, none⟩ = some (.string s1) := (hG.2.1.cell (p := ⟨b, _, none⟩) hbs).trans e1
      clear e0 e1
      go_wp2_with (at_builtin; refine wpList_append_fits _ rfl (.tmp 26) (.tmp 31) 27 rfl w.heap.size 34 i0 2 Try.underlying27 hi hz1 w.heap.size k (n0 + n1 + n2) _ rfl (hG.1.alloc _) ⟨wr.heap.size, 0, none⟩ 1 1 [.string s0, .string s1] rfl rfl (new_two _ _ _) (one_two _ _) (by omega) ?_)
      intro w2 hown hgrow
      have hG' := hG.step (s0 := s0) (s1 := s1) (by first | exact hown | (rw [List.append_assoc]; exact hown)) hgrow
      rw [← take_snoc HP.out] at hG'
      clear hown hgrow hG
      go_wp2
      go_roundw
      case rel => exact ⟨k + 1, by omega, by go_num, rfl, hG'⟩
      case measure => simp [intOf]; omega
    · have hkn : n0 = k := by omega
      have hG1 : Got w wr w.heap.size (n0 + n1 + n2) n0 xs := by rw [← hkn, List.take_of_length_le (by omega)] at hG; exact hG
      subst hkn
      clear hG
      go_wp2
      go_loopw [7, 9] (fun o i wr => ∃ k : Nat, k ≤ n1 ∧ i = .int .i64 k ∧ o = .slice (some ⟨w.heap.size, 0, none⟩) (n0 + k) (n0 + n1 + n2) ∧ Got w wr w.heap.size (n0 + n1 + n2) (n0 + k) (xs ++ ys.take k)) (fun _ i _ => n1 - (intOf i).toNat)
      case atStart => exact ⟨0, Nat.zero_le _, rfl, rfl, by simpa using hG1⟩
      case round =>
        clear hG1
        obtain ⟨k, hk, rfl, rfl, hG⟩ := hrel
        by_cases hlt : k < n1
        · obtain ⟨⟨s0, s1⟩, hp⟩ : ∃ p, ys[k]? = some p := ⟨ys[k], by simp [h1, hlt]⟩
          obtain ⟨b, off, hao, hbs, e0, e1⟩ := l1 k _ hp
          have HP : Hid (ys[k]? = some (s0, s1)) := hp
          clear hp
          subst hao
          have e0' : wr.cell? ⟨b, off + k * 2, none⟩ = some (.string s0) := (hG.2.1.cell (p := ⟨b, _, none⟩) hbs).trans e0
          have e1' : wr.cell? ⟨b, off + k * 2 + 1, none⟩ = some (.string s1) := (hG.2.1.cell (p := ⟨b, _, none⟩) hbs).trans e1
          clear e0 e1
          go_wp2_with (at_builtin; refine wpList_append_fits _ rfl (.tmp 39) (.tmp 44) 27 rfl w.heap.size 34 i0 2 Try.underlying27 hi hz1 w.heap.size (n0 + k) (n0 + n1 + n2) _ rfl (hG.1.alloc _) ⟨wr.heap.size, 0, none⟩ 1 1 [.string s0, .string s1] rfl rfl (new_two _ _ _) (one_two _ _) (by omega) ?_)
          intro w2 hown hgrow
          have hG' := hG.step (s0 := s0) (s1 := s1) (by first | exact hown | (rw [List.append_assoc]; exact hown)) hgrow
          rw [List.append_assoc, ← take_snoc HP.out] at hG'
          clear hown hgrow hG
          go_wp2
          go_roundw
          case rel => exact ⟨k + 1, by omega, by go_num, rfl, hG'⟩
          case measure => simp [intOf]; omega
        · have hkn : n1 = k := by omega
          have hG1 : Got w wr w.heap.size (n0 + n1 + n2) (n0 + n1) (xs ++ ys) := by rw [← hkn, List.take_of_length_le (by omega)] at hG; exact hG
          subst hkn
          clear hG
          go_wp2
          go_loopw [7, 10] (fun o i wr => ∃ k : Nat, k ≤ n2 ∧ i = .int .i64 k ∧ o = .slice (some ⟨w.heap.size, 0, none⟩) (n0 + n1 + k) (n0 + n1 + n2) ∧ Got w wr w.heap.size (n0 + n1 + n2) (n0 + n1 + k) (xs ++ ys ++ zs.take k)) (fun _ i _ => n2 - (intOf i).toNat)
          case atStart => exact ⟨0, Nat.zero_le _, rfl, rfl, by simpa using hG1⟩
          case round =>
            clear hG1
            obtain ⟨k, hk, rfl, rfl, hG⟩ := hrel
            by_cases hlt : k < n2
            · obtain ⟨⟨s0, s1⟩, hp⟩ : ∃ p, zs[k]? = some p := ⟨zs[k], by simp [h2, hlt]⟩
              obtain ⟨b, off, hao, hbs, e0, e1⟩ := l2 k _ hp
              have HP : Hid (zs[k]? = some (s0, s1)) := hp
              clear hp
              subst hao
              have e0' : wr.cell? ⟨b, off + k * 2, none⟩ = some (.string s0) := (hG.2.1.cell (p := ⟨b, _, none⟩) hbs).trans e0
              have e1' : wr.cell? ⟨b, off + k * 2 + 1, none⟩ = some (.string s1) := (hG.2.1.cell (p := ⟨b, _, none⟩) hbs).trans e1
              clear e0 e1
              go_wp2_with (at_builtin; refine wpList_append_fits _ rfl (.tmp 52) (.tmp 57) 27 rfl w.heap.size 34 i0 2 Try.underlying27 hi hz1 w.heap.size (n0 + n1 + k) (n0 + n1 + n2) _ rfl (hG.1.alloc _) ⟨wr.heap.size, 0, none⟩ 1 1 [.string s0, .string s1] rfl rfl (new_two _ _ _) (one_two _ _) (by omega) ?_)
              intro w2 hown hgrow
              have hG' := hG.step (s0 := s0) (s1 := s1) (by first | exact hown | (rw [List.append_assoc]; exact hown)) hgrow
              rw [List.append_assoc, ← take_snoc HP.out] at hG'
              clear hown hgrow hG
              go_wp2
              go_roundw
              case rel => exact ⟨k + 1, by omega, by go_num, rfl, hG'⟩
              case measure => simp [intOf]; omega
            · have hkn : n2 = k := by omega
              have hG1 : Got w wr w.heap.size (n0 + n1 + n2) (n0 + n1 + n2) (xs ++ ys ++ zs) := by rw [← hkn, List.take_of_length_le (by omega)] at hG; exact hG
              subst hkn
              clear hG
              go_wp2
              have hL := hG1.lies (by simp; omega)
              have hB := hG1.2.1
              clear hG1
              go_ret
              exact ⟨_, _, rfl, hL, hB⟩
end Go.Proofs.Qxb6609009a

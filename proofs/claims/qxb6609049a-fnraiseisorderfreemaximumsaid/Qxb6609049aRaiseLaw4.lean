import Derived.Test.Qxb6609049aRaiseBase
namespace Go.Proofs.Qxb6609049a
open Go.RowKit

/-- x is the greatest of s and the values of l -/
def IsMax (x s : Int) (l : List Int) : Prop := s ≤ x ∧ (∀ v ∈ l, v ≤ x) ∧ (x = s ∨ x ∈ l)

theorem IsMax.unique {x y s : Int} {l : List Int} (h : IsMax x s l) (k : IsMax y s l) : x = y := by
  obtain ⟨h1, h2, h3⟩ := h
  obtain ⟨k1, k2, k3⟩ := k
  have hxy : x ≤ y := by
    rcases h3 with e | e
    · omega
    · exact k2 x e
  have hyx : y ≤ x := by
    rcases k3 with e | e
    · omega
    · exact h2 y e
  omega

theorem isMax_nil (s : Int) : IsMax s s [] := ⟨Int.le_refl _, by simp, .inl rfl⟩

theorem IsMax.snoc {x s : Int} {l : List Int} (z : Int) (h : IsMax x s l) : IsMax (max x z) s (l ++ [z]) := by
  obtain ⟨h1, h2, h3⟩ := h
  refine ⟨by omega, fun v hv => ?_, ?_⟩
  · rcases List.mem_append.1 hv with hv | hv
    · have := h2 v hv; omega
    · simp at hv; omega
  · by_cases hz : x ≤ z
    · right; rw [show max x z = z by omega]; simp
    · rw [show max x z = x by omega]
      rcases h3 with e | e
      · exact .inl e
      · exact .inr (by simp [e])

theorem IsMax.cons {x s : Int} {l : List Int} (z : Int) (h : IsMax x s l) : IsMax (max x z) s (z :: l) := by
  obtain ⟨h1, h2, h3⟩ := h
  refine ⟨by omega, fun v hv => ?_, ?_⟩
  · rcases List.mem_cons.1 hv with hv | hv
    · omega
    · have := h2 v hv; omega
  · by_cases hz : x ≤ z
    · right; rw [show max x z = z by omega]; simp
    · rw [show max x z = x by omega]
      rcases h3 with e | e
      · exact .inl e
      · exact .inr (by simp [e])

theorem take_snoc {l : List Int} {k : Nat} {z : Int} (h : l[k]? = some z) : l.take (k + 1) = l.take k ++ [z] := by
  obtain ⟨hk, he⟩ := List.getElem?_eq_some_iff.1 h
  rw [List.take_succ_eq_append_getElem hk, he]
theorem drop_cons {l : List Int} {k : Nat} {z : Int} (h : l[k]? = some z) : l.drop k = z :: l.drop (k + 1) := by
  obtain ⟨hk, he⟩ := List.getElem?_eq_some_iff.1 h
  rw [List.drop_eq_getElem_cons hk, he]

set_option maxRecDepth 100000 in
set_option maxHeartbeats 2000000 in
theorem law4_core (s : Int) (a : Option Addr) (n c : Nat) (l : List Int) (hl : l.length = n) (hn : n ≤ 65536) (w : World) (hr : IntRow w a l) :
    Calls Try.prog 4 #[.int .i64 s, .slice a n c] w fun e w' => e = .returned (.bool true) ∧ Below w.heap.size w w' := by
  have d0 : decide ((65536 : Int) < (n : Int)) = false := decide_eq_false (by omega)
  go_enter Try.func4, Try.ntmps4
  go_wp2_with fail
  refine (bytes10_any s a n c (by unfold maxLen; omega) w).mono ?_
  rintro e w' ⟨⟨b, rfl⟩, hw⟩
  obtain rfl : w = w' := hw.symm
  clear hw
  cases b with
  | false =>
    go_wp2
    go_ret
    exact ⟨rfl, Below.refl _ _⟩
  | true =>
  go_wp2_with fail
  refine (newCell_any s w).mono ?_
  rintro e w1 ⟨rfl, hA, hsz, hB⟩
  go_wp2_with fail
  refine (newCell_any s w1).mono ?_
  rintro e w2 ⟨rfl, hA2, hsz2, hB2⟩
  have hA1 : Atom w2 w.heap.size s := ⟨(hB2.cell (p := ⟨w.heap.size, 0, none⟩) hsz).trans hA.1, (hB2.frozen (p := ⟨w.heap.size, 0, none⟩) hsz).trans hA.2⟩
  have hB3 : Below w.heap.size w w2 := hB.trans (hB2.mono hB.size)
  have hne : w.heap.size ≠ w1.heap.size := by omega
  obtain ⟨B2, hb2⟩ : ∃ B2, B2 = w1.heap.size := ⟨_, rfl⟩
  rw [← hb2] at hA2 hne ⊢
  have hlt2 : w.heap.size < B2 := by omega
  clear hA hB hB2 hsz hsz2 hb2
  go_wp2
  go_loopw [7] (fun i wr => ∃ (k : Nat) (q : Int), k ≤ n ∧ i = .int .i64 k ∧ Atom wr w.heap.size q ∧ Atom wr B2 s ∧ IsMax q s (l.take k) ∧ Below w.heap.size w wr) (fun i _ => n - (intOf i).toNat)
  case atStart => exact ⟨0, s, Nat.zero_le _, rfl, hA1, hA2, by simpa using isMax_nil s, hB3⟩
  case round =>
    clear hA1 hA2 hB3
    obtain ⟨k, q, hk, rfl, hA1, hA2, hmx, hB⟩ := hrel
    by_cases hlt : k < n
    · obtain ⟨z, hp⟩ : ∃ p, l[k]? = some p := ⟨l[k], by simp [hl, hlt]⟩
      obtain ⟨b, off, hao, hbs, e0⟩ := hr k _ hp
      have e0' : wr.cell? ⟨b, off + k, none⟩ = some (.int .i64 z) := (hB.cell (p := ⟨b, _, none⟩) hbs).trans e0
      have hmx' := hmx.snoc z
      rw [← take_snoc hp] at hmx'
      clear hp hbs e0 hmx
      subst hao
      go_wp2_with fail
      refine (zzraise_any w.heap.size q z wr hA1).mono ?_
      rintro e w2 ⟨rfl, hA3, hg⟩
      have hB2 : Below w.heap.size w w2 := hB.grown hg hB.size (fun j e => by cases e; exact Nat.le_refl _)
      have hA4 := hA2.kept hg (by omega)
      clear hg hA1 hA2 e0' hB
      go_wp2
      go_roundw
      case rel => exact ⟨k + 1, _, by omega, by go_num, hA3, hA4, hmx', hB2⟩
      case measure => simp [intOf]; omega
    rw [List.take_of_length_le (by omega)] at hmx
    have HX := hidden hmx
    clear hmx
    go_wp2
    clear hk hlt
    go_loopw [8] (fun i wr => ∃ (k : Nat) (j r : Int), k ≤ n ∧ j = (k : Int) - 1 ∧ i = .int .i64 j ∧ Atom wr w.heap.size q ∧ Atom wr B2 r ∧ IsMax r s (l.drop k) ∧ Below w.heap.size w wr) (fun i _ => (intOf i + 1).toNat)
    case atStart => exact ⟨n, _, s, Nat.le_refl _, rfl, rfl, hA1, hA2, by rw [List.drop_of_length_le (by omega)]; exact isMax_nil s, hB⟩
    case round =>
      clear hA1 hA2 hB
      obtain ⟨k, j, r, hk, hj, rfl, hA1, hA2, hmx, hB⟩ := hrel
      cases k with
      | succ k =>
        have hj' : j = (k : Int) := by omega
        clear hj
        subst hj'
        obtain ⟨z, hp⟩ : ∃ p, l[k]? = some p := ⟨l[k]'(by omega), by simp⟩
        obtain ⟨b, off, hao, hbs, e0⟩ := hr k _ hp
        have e0' : wr.cell? ⟨b, off + k, none⟩ = some (.int .i64 z) := (hB.cell (p := ⟨b, _, none⟩) hbs).trans e0
        have hmx' := hmx.cons z
        rw [← drop_cons hp] at hmx'
        have hkn : (k : Int) < (n : Int) := by omega
        clear hp hbs e0 hmx
        subst hao
        go_wp2_with fail
        refine (zzraise_any B2 r z wr hA2).mono ?_
        rintro e w2 ⟨rfl, hA3, hg⟩
        have hB2 : Below w.heap.size w w2 := hB.grown hg hB.size (fun j e => by cases e; omega)
        have hA4 := hA1.kept hg (by omega)
        clear hg hA1 hA2 e0' hB
        go_wp2
        go_roundw
        case rel => exact ⟨k, _, _, by omega, rfl, rfl, hA4, hA3, hmx', hB2⟩
        case measure => simp [intOf]
      | zero =>
        have hj' : j = -1 := by omega
        clear hj
        subst hj'
        rw [List.drop_zero] at hmx
        have erq := hmx.unique HX.out
        subst erq
        clear hmx
        go_wp2_with fail
        refine (zzload_any w.heap.size r wr hA1).mono ?_
        rintro e w3 ⟨rfl, hw⟩
        obtain rfl : wr = w3 := hw.symm
        clear hw
        go_wp2_with fail
        refine (zzload_any B2 r wr hA2).mono ?_
        rintro e w3 ⟨rfl, hw⟩
        obtain rfl : wr = w3 := hw.symm
        clear hw
        have hge : ¬ r < s := by have := HX.out.1; omega
        have hge' : decide (r < s) = false := decide_eq_false hge
        obtain ⟨f0, hf0⟩ : ∃ f0, (r == s) = f0 := ⟨_, rfl⟩
        have HF0 := hidden hf0
        go_wp2
        clear hge hge' hf0
        go_loop [10, 11] (fun t i => ∃ (k : Nat) (f : Bool), k ≤ n ∧ i = .int .i64 k ∧ t = .bool f ∧ Hid (f = true ↔ (r = s ∨ r ∈ l.take k))) (fun _ i => n - (intOf i).toNat)
        case atStart => exact ⟨0, f0, Nat.zero_le _, rfl, rfl, hidden (by rw [← HF0.out]; simp)⟩
        case round =>
          clear hk
          obtain ⟨k, f, hk, rfl, rfl, HF⟩ := hrel
          by_cases hlt : k < n
          · obtain ⟨z, hp⟩ : ∃ p, l[k]? = some p := ⟨l[k], by simp [hl, hlt]⟩
            obtain ⟨b, off, hao, hbs, e0⟩ := hr k _ hp
            have e0' : wr.cell? ⟨b, off + k, none⟩ = some (.int .i64 z) := (hB.cell (p := ⟨b, _, none⟩) hbs).trans e0
            have hzr : ¬ r < z := by
              have := HX.out.2.1 z (List.mem_of_getElem? hp)
              omega
            have HP := hidden hp
            clear hp hbs e0
            subst hao
            cases hz : (z == r) with
            | true =>
              go_wp2
              go_round
              case rel => exact ⟨k + 1, true, by omega, by go_num, rfl, hidden (by
                rw [take_snoc HP.out]
                have e : z = r := by simpa using hz
                simp [e])⟩
              case measure => simp [intOf]; omega
            | false =>
              go_wp2
              go_round
              case rel => exact ⟨k + 1, f, by omega, by go_num, rfl, hidden (by
                rw [take_snoc HP.out, HF.out]
                have e : ¬ r = z := by intro h; subst h; simp at hz
                simp [e])⟩
              case measure => simp [intOf]; omega
          · have hf : f = true := by
              rw [HF.out, List.take_of_length_le (by omega)]
              exact HX.out.2.2
            subst hf
            clear HF
            go_wp2
            go_ret
            exact ⟨rfl, hB⟩

set_option maxHeartbeats 400000 in
theorem law4_early (s : Int) (a : Option Addr) (n c : Nat) (hn : n ≤ maxLen) (hc : 65536 < n) (w : World) :
    Calls Try.prog 4 #[.int .i64 s, .slice a n c] w fun e w' => e = .returned (.bool true) ∧ Below w.heap.size w w' := by
  have d0 : decide ((65536 : Int) < (n : Int)) = true := decide_eq_true (by omega)
  have HB := hidden (bytes10_any s a n c hn w)
  clear hn
  go_enter Try.func4, Try.ntmps4
  go_wp2_with fail
  refine HB.out.mono ?_
  rintro e w' ⟨⟨b, rfl⟩, hw⟩
  obtain rfl : w = w' := hw.symm
  clear hw HB
  cases b with
  | false =>
    go_wp2
    go_ret
    exact ⟨rfl, Below.refl _ _⟩
  | true =>
    go_wp2
    go_ret
    exact ⟨rfl, Below.refl _ _⟩

theorem law4_walk (s : Int) (a : Option Addr) (n c : Nat) (l : List Int) (hl : l.length = n) (hn : n ≤ maxLen) (w : World) (hr : IntRow w a l) :
    Calls Try.prog 4 #[.int .i64 s, .slice a n c] w fun e w' => e = .returned (.bool true) ∧ Below w.heap.size w w' := by
  by_cases hc : 65536 < n
  · exact law4_early s a n c hn hc w
  · exact law4_core s a n c l hl (by omega) w hr
end Go.Proofs.Qxb6609049a

import Derived.Test.Qxb6609049aRaiseBase
namespace Go.Proofs.Qxb6609049a
open Go.RowKit

set_option maxHeartbeats 1000000 in
theorem law3_core (s : Int) (a : Option Addr) (n c : Nat) (l : List Int) (hl : l.length = n) (hn : n ≤ 65536) (w : World) (hr : IntRow w a l) :
    Calls Try.prog 3 #[.int .i64 s, .slice a n c] w fun e w' => e = .returned (.bool true) ∧ Below w.heap.size w w' := by
  have d0 : decide ((65536 : Int) < (n : Int)) = false := decide_eq_false (by omega)
  go_enter Try.func3, Try.ntmps3
  go_wp2_with fail
  refine (bytes6_any s a n c (by unfold maxLen; omega) w).mono ?_
  rintro e w' ⟨⟨b, rfl⟩, hw⟩
  obtain rfl : w = w' := hw.symm
  clear hw
  cases b with
  | false =>
    go_wp2
    go_ret
    exact ⟨rfl, Below.refl _ _⟩
  | true =>
  go_wp2_with fail
  refine (newCell_any s w).mono ?_
  rintro e w1 ⟨rfl, hA, hsz, hB⟩
  go_wp2
  go_loopw [6, 7] (fun t i wr => ∃ (k : Nat) (q : Int), k ≤ n ∧ i = .int .i64 k ∧ t = .int .i64 q ∧ Atom wr w.heap.size q ∧ Below w.heap.size w wr) (fun _ i _ => n - (intOf i).toNat)
  case atStart => exact ⟨0, s, Nat.zero_le _, rfl, rfl, hA, hB⟩
  case round =>
    clear hA hsz hB
    obtain ⟨k, q, hk, rfl, rfl, hA, hB⟩ := hrel
    by_cases hlt : k < n
    · obtain ⟨z, hp⟩ : ∃ p, l[k]? = some p := ⟨l[k], by simp [hl, hlt]⟩
      obtain ⟨b, off, hao, hbs, e0⟩ := hr k _ hp
      have e0' : wr.cell? ⟨b, off + k, none⟩ = some (.int .i64 z) := (hB.cell (p := ⟨b, _, none⟩) hbs).trans e0
      clear hp hbs e0
      subst hao
      go_wp2_with fail
      refine (zzraise_any w.heap.size q z wr hA).mono ?_
      rintro e w2 ⟨rfl, hA2, hg⟩
      have hB2 : Below w.heap.size w w2 := hB.grown hg hB.size (fun j e => by cases e; exact Nat.le_refl _)
      clear hg hA e0' hB
      by_cases hz : q < z
      · have em : max q z = z := by omega
        rw [em] at hA2
        clear em
        go_wp2_with fail
        refine (zzload_any w.heap.size z w2 hA2).mono ?_
        rintro e w3 ⟨rfl, hw⟩
        obtain rfl : w2 = w3 := hw.symm
        clear hw
        go_wp2
        go_roundw
        case rel => exact ⟨k + 1, z, by omega, by go_num, rfl, hA2, hB2⟩
        case measure => simp [intOf]; omega
      · have em : max q z = q := by omega
        rw [em] at hA2
        clear em
        go_wp2_with fail
        refine (zzload_any w.heap.size q w2 hA2).mono ?_
        rintro e w3 ⟨rfl, hw⟩
        obtain rfl : w2 = w3 := hw.symm
        clear hw
        go_wp2
        go_roundw
        case rel => exact ⟨k + 1, q, by omega, by go_num, rfl, hA2, hB2⟩
        case measure => simp [intOf]; omega
    · go_wp2
      go_ret
      exact ⟨rfl, hB⟩

set_option maxHeartbeats 400000 in
theorem law3_early (s : Int) (a : Option Addr) (n c : Nat) (hn : n ≤ maxLen) (hc : 65536 < n) (w : World) :
    Calls Try.prog 3 #[.int .i64 s, .slice a n c] w fun e w' => e = .returned (.bool true) ∧ Below w.heap.size w w' := by
  have d0 : decide ((65536 : Int) < (n : Int)) = true := decide_eq_true (by omega)
  have HB := hidden (bytes6_any s a n c hn w)
  clear hn
  go_enter Try.func3, Try.ntmps3
  go_wp2_with fail
  refine HB.out.mono ?_
  rintro e w' ⟨⟨b, rfl⟩, hw⟩
  obtain rfl : w = w' := hw.symm
  clear hw HB
  cases b with
  | false =>
    go_wp2
    go_ret
    exact ⟨rfl, Below.refl _ _⟩
  | true =>
    go_wp2
    go_ret
    exact ⟨rfl, Below.refl _ _⟩

theorem law3_walk (s : Int) (a : Option Addr) (n c : Nat) (l : List Int) (hl : l.length = n) (hn : n ≤ maxLen) (w : World) (hr : IntRow w a l) :
    Calls Try.prog 3 #[.int .i64 s, .slice a n c] w fun e w' => e = .returned (.bool true) ∧ Below w.heap.size w w' := by
  by_cases hc : 65536 < n
  · exact law3_early s a n c hn hc w
  · exact law3_core s a n c l hl (by omega) w hr
end Go.Proofs.Qxb6609049a

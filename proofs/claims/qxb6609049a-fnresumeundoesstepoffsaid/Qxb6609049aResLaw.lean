import Derived.Test.Qxb6609049aResD
import Derived.LaidEqlPtr
namespace Go.Proofs.Qxb6609049a
open Go.RowKit Go.Conc

theorem wrap_in (x : Int) (h1 : -9223372036854775808 ≤ x) (h2 : x ≤ 9223372036854775807) : wrap64 x = x := by
  unfold wrap64; omega
theorem wrap_back (s : Int) (h1 : 0 ≤ s) (h2 : s ≤ 9223372036854775807) : wrap64 (wrap64 (s + 1) + -1) = s := by
  unfold wrap64; omega
theorem eql_same (w : World) (a : Addr) : (binOp .eql 30 (.pointer (some a)) (.pointer (some a))).run Try.prog w = .ok (.bool true) w := by
  have h : (Try.prog.info? 101).isSome = true := by kernel_rfl
  obtain ⟨i, hi⟩ := Option.isSome_iff_exists.1 h
  exact run_eql_ptr_same w a Try.underlying30 hi

set_option maxRecDepth 100000 in
set_option maxHeartbeats 2000000 in
theorem law5_core (r s t : Int) (hr : 1 ≤ r) (hr2 : r ≤ 9223372036854775807) (hs : 0 ≤ s) (hs2 : s ≤ 9223372036854775807) (ht : 0 ≤ t) (w : World) :
    Calls Try.prog 5 #[.int .i64 r, .int .i64 s, .int .i64 t] w fun e w' => e = .returned (.bool true) ∧ Below w.heap.size w w' := by
  have e1 : wrap64 (r + -1) = r - 1 := wrap_in _ (by omega) (by omega)
  have e2 : wrap64 (r - 1 + 1) = r := by rw [wrap_in _ (by omega) (by omega)]; omega
  have e3 := wrap_back s hs hs2
  have E1 := hidden e1
  have E2 := hidden e2
  have E3 := hidden e3
  have d0 : decide (r < 1) = false := decide_eq_false (by omega)
  have d1 : decide (s < 0) = false := decide_eq_false (by omega)
  have d2 : decide (t < 0) = false := decide_eq_false (by omega)
  clear e1 e2 e3 hs2
  go_enter Try.func5, Try.ntmps5
  go_wp2_with fail
  refine (newSched_any r s t w).mono ?_
  rintro e w1 ⟨rfl, hS, hz1, hB1⟩
  go_wp2_with fail
  refine (newProc_any w.heap.size 0 w1).mono ?_
  rintro e w2 ⟨rfl, hB2, hz2⟩
  go_wp2_with fail
  refine (newTask_any w.heap.size 1 (some ⟨w1.heap.size, 0, none⟩) w2).mono ?_
  rintro e w3 ⟨rfl, hT, hz3, hB3⟩
  have hB12 : Below w1.heap.size w1 w3 := hB2.trans (hB3.mono hB2.size)
  have hS3 : Sched w3 w.heap.size r s t := by
    obtain ⟨⟨a1, a2⟩, ⟨a3, a4⟩, ⟨a5, a6⟩⟩ := hS
    exact ⟨⟨(hB12.cell (p := ⟨_, _, none⟩) hz1).trans a1, (hB12.frozen (p := ⟨_, _, none⟩) hz1).trans a2⟩, ⟨(hB12.cell (p := ⟨_, _, none⟩) hz1).trans a3, (hB12.frozen (p := ⟨_, _, none⟩) hz1).trans a4⟩,
      ⟨(hB12.cell (p := ⟨_, _, none⟩) hz1).trans a5, (hB12.frozen (p := ⟨_, _, none⟩) hz1).trans a6⟩⟩
  have hB03 : Below w.heap.size w w3 := hB1.trans (hB12.mono hB1.size)
  have l1 : w.heap.size < w2.heap.size := by omega
  clear hS hB1 hB2 hB3 hB12 hz1 hz2
  go_wp2_with fail
  refine (zzstepOff_any w.heap.size w.heap.size w2.heap.size (w2.heap.size + 1) (w2.heap.size + 1 + 1) _ _ _ r s t w3 hS3 hT (Nat.le_refl _) l1 (by omega) (by omega)).mono ?_
  rintro e w4 ⟨rfl, hS4, hT4, hB4⟩
  rw [E1.out] at hS4
  have hB04 := hB03.trans hB4
  clear hS3 hT hB03 hB4
  go_wp2_with fail
  refine (counts_any w.heap.size _ _ _ w4 hS4).mono ?_
  rintro e w5 ⟨rfl, n5, rfl⟩
  go_wp2_with fail
  refine (state_any w.heap.size w2.heap.size (w2.heap.size + 1) (w2.heap.size + 1 + 1) none #[] 0 _ ?ht1).mono ?_
  case ht1 => exact hT4
  rintro e w6 ⟨rfl, n6, rfl⟩
  go_wp2_with fail
  refine (zzresume_any w.heap.size w.heap.size w2.heap.size (w2.heap.size + 1) (w2.heap.size + 1 + 1) (some ⟨w1.heap.size, 0, none⟩) (r - 1) (wrap64 (s + 1)) t _ ?hs7 ?ht7 (Nat.le_refl _) l1 (by omega) (by omega)).mono ?_
  case hs7 => exact hS4
  case ht7 => exact hT4
  rintro e w7 ⟨rfl, hS7, hT7, hB7⟩
  rw [E2.out, E3.out] at hS7
  have hB07 : Below w.heap.size w w7 := (below_drewN hB04 (n5 + n6)).trans hB7
  have heq := fun W => eql_same W ⟨w1.heap.size, 0, none⟩
  clear hS4 hT4 hB04 hB7
  go_wp2_with fail
  refine (counts_any w.heap.size _ _ _ w7 hS7).mono ?_
  rintro e w8 ⟨rfl, n8, rfl⟩
  go_wp2_with fail
  refine (state_any w.heap.size w2.heap.size (w2.heap.size + 1) (w2.heap.size + 1 + 1) (some ⟨w1.heap.size, 0, none⟩) #[.agg #[]] 1 _ ?ht9).mono ?_
  case ht9 => exact hT7
  rintro e w9 ⟨rfl, n9, rfl⟩
  go_wp2
  go_ret
  exact ⟨rfl, below_drewN hB07 _⟩

set_option maxHeartbeats 400000 in
theorem law5_early (r s t : Int) (h : r < 1 ∨ s < 0 ∨ t < 0) (w : World) :
    Calls Try.prog 5 #[.int .i64 r, .int .i64 s, .int .i64 t] w fun e w' => e = .returned (.bool true) ∧ Below w.heap.size w w' := by
  by_cases g0 : r < 1
  · have d0 : decide (r < 1) = true := decide_eq_true g0
    clear h
    go_enter Try.func5, Try.ntmps5
    go_wp2
    go_ret
    exact ⟨rfl, Below.refl _ _⟩
  have d0 : decide (r < 1) = false := decide_eq_false g0
  by_cases g1 : s < 0
  · have d1 : decide (s < 0) = true := decide_eq_true g1
    clear h
    go_enter Try.func5, Try.ntmps5
    go_wp2
    go_ret
    exact ⟨rfl, Below.refl _ _⟩
  have d1 : decide (s < 0) = false := decide_eq_false g1
  have g2 : t < 0 := by omega
  have d2 : decide (t < 0) = true := decide_eq_true g2
  clear h
  go_enter Try.func5, Try.ntmps5
  go_wp2
  go_ret
  exact ⟨rfl, Below.refl _ _⟩

theorem law5_walk (r s t : Int) (hr : r ≤ 9223372036854775807) (hs : s ≤ 9223372036854775807) (w : World) :
    Calls Try.prog 5 #[.int .i64 r, .int .i64 s, .int .i64 t] w fun e w' => e = .returned (.bool true) ∧ Below w.heap.size w w' := by
  by_cases h : r < 1 ∨ s < 0 ∨ t < 0
  · exact law5_early r s t h w
  · exact law5_core r s t (by omega) hr (by omega) hs (by omega) w
end Go.Proofs.Qxb6609049a

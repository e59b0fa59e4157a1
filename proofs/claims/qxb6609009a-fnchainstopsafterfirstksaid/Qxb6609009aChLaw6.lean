import Derived.Test.Qxb6609009aChLawA
import Derived.Test.Qxb6609009aChTake
namespace Go.Proofs.Qxb6609009a
open Go.RowKit

theorem chainTake_len (p0 : Option Addr) (k : Int) (bs : List Nat) (N m : Nat) (hN : bs.length = N) (hm : min k.toNat N = m) (hlen : N ≤ 100000) (w : World) (hL : IsChain w.heap.size w p0 bs) :
    Calls Try.prog 18 #[.pointer p0, .int .i64 k] w fun e W' => ∃ ao cap, e = .returned (.slice ao m cap) ∧ Ptrs W' ao (bs.take m) ∧ Below w.heap.size w W' := by
  subst hN
  have e1 : (bs.take k.toNat).length = m := by rw [List.length_take]; exact hm
  have e2 : bs.take k.toNat = bs.take m := by
    rw [← hm]
    by_cases h : k.toNat ≤ bs.length
    · rw [Nat.min_eq_left h]
    · rw [Nat.min_eq_right (by omega), List.take_of_length_le (by omega), List.take_of_length_le (Nat.le_refl _)]
  have h := chainTake_any p0 k bs hlen w hL
  rw [e1, e2] at h
  exact h

theorem clamp_len (k : Int) (n m : Nat) (hm : min k.toNat n = m) (w : World) : Calls Try.prog 17 #[.int .i64 k, .int .i64 n] w fun e w' => e = .returned (.int .i64 (m : Int)) ∧ w' = w := by
  subst hm
  exact clamp_any k n w

set_option maxRecDepth 100000 in
set_option maxHeartbeats 2000000 in
theorem law6_core (a0 : Option Addr) (n0 c0 : Nat) (kk : Int) (ss : List ByteArray) (h0 : ss.length = n0) (b0 : n0 ≤ 4096) (w : World) (l0 : StrRow w a0 ss) :
    Calls Try.prog 6 #[.slice a0 n0 c0, .int .i64 kk] w fun e w' => e = .returned (.bool true) ∧ Below w.heap.size w w' := by
  have d0 : decide ((4096 : Int) < (n0 : Int)) = false := decide_eq_false (by omega)
  have HB := hidden (bytes16_any a0 n0 c0 kk ss h0 (by unfold maxLen; omega) w l0)
  obtain ⟨m, hm⟩ : ∃ m, min kk.toNat n0 = m := ⟨_, rfl⟩
  have hmn : m ≤ n0 := by omega
  have HM := hidden hm
  have HMN := hidden hmn
  clear hm hmn
  go_enter Try.func6, Try.ntmps6
  go_wp2_with fail
  refine HB.out.mono ?_
  rintro e w' ⟨⟨b, rfl⟩, hw⟩
  obtain rfl : w = w' := hw.symm
  clear hw HB
  cases b with
  | false =>
    go_wp2
    go_ret
    exact ⟨rfl, Below.refl _ _⟩
  | true =>
  go_wp2
  go_loop [5, 6] (fun t i => ∃ (k : Nat) (q : Int), k ≤ n0 ∧ i = .int .i64 k ∧ t = .int .i64 q) (fun _ i => n0 - (intOf i).toNat)
  case atStart => exact ⟨0, _, Nat.zero_le _, rfl, rfl⟩
  case round =>
    obtain ⟨k, q, hk, rfl, rfl⟩ := hrel
    by_cases hlt : k < n0
    · obtain ⟨s0, hp⟩ : ∃ p, ss[k]? = some p := ⟨ss[k], by simp [h0, hlt]⟩
      obtain ⟨b, off, hao, hbs, e0⟩ := l0 k _ hp
      clear hp hbs
      subst hao
      go_wp2
      · go_ret; exact ⟨rfl, Below.refl _ _⟩
      · go_round
        case rel => exact ⟨k + 1, _, by omega, by go_num, rfl⟩
        case measure => simp [intOf]; omega
    go_wp2_with fail
    refine (build_any a0 n0 c0 ss h0 (by omega) _ ?hl1).mono ?_
    case hl1 => exact l0
    rintro e w2 ⟨bs, p, rfl, lb, ch, pt, k1⟩
    have HL := hidden lb
    have H0 := hidden h0
    clear hk hlt h0
    rcases Nat.eq_zero_or_pos n0 with hz | hz
    · have hp : p = none := by
        have e : bs = [] := List.eq_nil_of_length_eq_zero (by omega)
        rw [e] at ch
        exact ch
      subst hp
      have z0 : ¬ (0 : Int) < (n0 : Int) := by omega
      have z1 : ¬ 0 < n0 := by omega
      clear lb hz
      go_wp2_with fail
      refine (clamp_len kk n0 m HM.out w2).mono ?_
      rintro e w3 ⟨rfl, hw⟩
      obtain rfl : w2 = w3 := hw.symm
      clear hw
      go_wp2_with fail
      refine (chainTake_len _ kk bs n0 m HL.out HM.out (by omega) w2 ch).mono ?_
      rintro e w3 ⟨o2, c2, rfl, p2, k2⟩
      have pt3 := pt.below k2
      have ch3 := ch.later k2
      have hB3 := stepB k1 k2
      have st := fun W => ptr_take (some ⟨w.heap.size, 0, none⟩) n0 n0 m HMN.out W
      clear k1 k2 ch pt
      go_wp2_with fail
      refine (same_any o2 _ m c2 _ (bs.take m) (by have h1 := HL.out; have h2 := HMN.out; rw [List.length_take]; omega) (by have := HMN.out; omega) w3 ?qaa ?qab).mono ?_
      case qaa => exact p2
      case qab => exact pt3.take m
      rintro e w4 ⟨rfl, k3⟩
      have pt4 := pt3.below k3
      have ch4 := ch3.later k3
      have p4 := p2.below k3
      have hB4 := stepB hB3 k3
      clear k3 pt3 ch3 p2 hB3 st
      go_wp2_with fail
      refine (chainAll_len _ bs n0 HL.out (by omega) w4 ch4).mono ?_
      rintro e w5 ⟨o3, c3, rfl, hcap, p3, k4⟩
      have pt5 := pt4.below k4
      have p5 := p4.below k4
      have hB5 := stepB hB4 k4
      have st := fun W => ptr_take o3 n0 c3 m (Nat.le_trans HMN.out hcap) W
      clear k4 pt4 p4 hB4 ch4 hcap
      go_wp2_with fail
      refine (same_any o3 _ n0 c3 _ bs HL.out (by omega) w5 ?qac ?qad).mono ?_
      case qac => exact p3
      case qad => exact pt5
      rintro e w6 ⟨rfl, k5⟩
      have p6 := p5.below k5
      have q6 := p3.below k5
      have hB6 := stepB hB5 k5
      clear k5 p5 p3 hB5 pt5
      go_wp2_with fail
      refine (same_any o2 _ m c2 _ (bs.take m) (by have h1 := HL.out; have h2 := HMN.out; rw [List.length_take]; omega) (by have := HMN.out; omega) w6 ?qae ?qaf).mono ?_
      case qae => exact p6
      case qaf => exact q6.take m
      rintro e w7 ⟨rfl, k6⟩
      go_wp2
      go_ret
      exact ⟨rfl, stepB hB6 k6⟩
    · obtain ⟨b, hp, hc0⟩ : ∃ b, p = some ⟨b, 0, none⟩ ∧ w2.cell? ⟨w.heap.size, 0, none⟩ = some (.pointer (some ⟨b, 0, none⟩)) := by
        cases bs with
        | nil => simp at lb; omega
        | cons b t =>
          obtain ⟨q1, hp1, _⟩ := ch
          obtain ⟨g, off, e, _, hc⟩ := pt 0 b rfl
          simp at e
          obtain ⟨rfl, rfl⟩ := e
          exact ⟨b, hp1, hc⟩
      subst hp
      have z0 : (0 : Int) < (n0 : Int) := by omega
      clear lb
      go_wp2_with fail
      refine (clamp_len kk n0 m HM.out w2).mono ?_
      rintro e w3 ⟨rfl, hw⟩
      obtain rfl : w2 = w3 := hw.symm
      clear hw
      go_wp2_with fail
      refine (chainTake_len _ kk bs n0 m HL.out HM.out (by omega) w2 ch).mono ?_
      rintro e w3 ⟨o2, c2, rfl, p2, k2⟩
      have pt3 := pt.below k2
      have ch3 := ch.later k2
      have hB3 := stepB k1 k2
      have st := fun W => ptr_take (some ⟨w.heap.size, 0, none⟩) n0 n0 m HMN.out W
      clear k1 k2 ch pt
      go_wp2_with fail
      refine (same_any o2 _ m c2 _ (bs.take m) (by have h1 := HL.out; have h2 := HMN.out; rw [List.length_take]; omega) (by have := HMN.out; omega) w3 ?qba ?qbb).mono ?_
      case qba => exact p2
      case qbb => exact pt3.take m
      rintro e w4 ⟨rfl, k3⟩
      have pt4 := pt3.below k3
      have ch4 := ch3.later k3
      have p4 := p2.below k3
      have hB4 := stepB hB3 k3
      clear k3 pt3 ch3 p2 hB3 st
      go_wp2_with fail
      refine (chainAll_len _ bs n0 HL.out (by omega) w4 ch4).mono ?_
      rintro e w5 ⟨o3, c3, rfl, hcap, p3, k4⟩
      have pt5 := pt4.below k4
      have p5 := p4.below k4
      have hB5 := stepB hB4 k4
      have st := fun W => ptr_take o3 n0 c3 m (Nat.le_trans HMN.out hcap) W
      clear k4 pt4 p4 hB4 ch4 hcap
      go_wp2_with fail
      refine (same_any o3 _ n0 c3 _ bs HL.out (by omega) w5 ?qbc ?qbd).mono ?_
      case qbc => exact p3
      case qbd => exact pt5
      rintro e w6 ⟨rfl, k5⟩
      have p6 := p5.below k5
      have q6 := p3.below k5
      have hB6 := stepB hB5 k5
      clear k5 p5 p3 hB5 pt5
      go_wp2_with fail
      refine (same_any o2 _ m c2 _ (bs.take m) (by have h1 := HL.out; have h2 := HMN.out; rw [List.length_take]; omega) (by have := HMN.out; omega) w6 ?qbe ?qbf).mono ?_
      case qbe => exact p6
      case qbf => exact q6.take m
      rintro e w7 ⟨rfl, k6⟩
      go_wp2
      go_ret
      exact ⟨rfl, stepB hB6 k6⟩
end Go.Proofs.Qxb6609009a

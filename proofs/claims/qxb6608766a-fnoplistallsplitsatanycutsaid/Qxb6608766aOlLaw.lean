import Derived.Test.Qxb6608766aOlAll
import Derived.Test.Qxb6608766aOlBytes
import Derived.Test.Qxb6608766aOlNeq
import Derived.WalkSmall
namespace Go.Proofs.Qxb6608766a
open Go.RowKit

theorem OpRow.elem {w : World} {lo hi : Nat} {ao : Option Addr} {l : List Int} {k : Nat} {z : Int} (h : OpRow w lo hi ao l) (hk : l[k]? = some z) :
    ∃ b off, ao = some ⟨b, off, none⟩ ∧ w.cell? ⟨b, off + k * 7, none⟩ = some (.int .u8 1) ∧ w.cell? ⟨b, off + k * 7 + 1, none⟩ = some (.bool false) ∧ w.cell? ⟨b, off + k * 7 + 2, none⟩ = some (.bool false) ∧
      w.cell? ⟨b, off + k * 7 + 3, none⟩ = some (.int .i64 z) ∧ w.cell? ⟨b, off + k * 7 + 4, none⟩ = some (.string ⟨#[]⟩) ∧ w.cell? ⟨b, off + k * 7 + 5, none⟩ = some (.int .i64 0) ∧ w.cell? ⟨b, off + k * 7 + 6, none⟩ = some (.pointer none) := by
  have f : ∀ t u, (opCells z)[t]? = some u → ∃ b off, ao = some ⟨b, off, none⟩ ∧ w.cell? ⟨b, off + (k * 7 + t), none⟩ = some u := by
    intro t u hu
    obtain ⟨b, off, h1, _, _, _, h2⟩ := h (k * 7 + t) u (flatOps_at l k z t u hk hu)
    exact ⟨b, off, h1, h2⟩
  obtain ⟨b, off, rfl, e0⟩ := f 0 _ rfl
  have g : ∀ t u, (opCells z)[t]? = some u → w.cell? ⟨b, off + k * 7 + t, none⟩ = some u := by
    intro t u hu
    obtain ⟨b', off', e, h⟩ := f t u hu
    simp only [Option.some.injEq, Addr.mk.injEq, and_true] at e
    obtain ⟨rfl, rfl⟩ := e
    rw [Nat.add_assoc]
    exact h
  exact ⟨b, off, rfl, g 0 _ rfl, g 1 _ rfl, g 2 _ rfl, g 3 _ rfl, g 4 _ rfl, g 5 _ rfl, g 6 _ rfl⟩

theorem OpList.make {w : World} {lo n c : Nat} {ao : Option Addr} {ms : List (List Int)} {N : Int} (h : Blocks w lo w.heap.size ao n 0 ms) (hlo : lo ≤ w.heap.size) (hn : ms.length = n) (hN : N = (ms.flatten.length : Nat)) :
    OpList (w.alloc (.cells #[.slice ao n c, .int .i64 N] 52)) lo w.heap.size ms := by
  subst hN
  refine ⟨ao, n, c, ?_, hlo, hn, h.below ((Below.refl _ _).alloc (Nat.le_refl _) _)⟩
  exact heap_alloc_new _ _

set_option maxRecDepth 100000 in
set_option maxHeartbeats 2000000 in
theorem law3 (a0 : Option Addr) (n0 c0 : Nat) (kk : Int) (ms : List (List Int)) (h0 : ms.length = n0) (hc0 : n0 ≤ c0) (b0 : n0 ≤ maxLen) (w : World) (l0 : Mat w a0 ms) (hb : ∀ (k : Nat) (r : List Int), ms[k]? = some r → r.length ≤ maxLen) :
    Calls Try.prog 3 #[.slice a0 n0 c0, .int .i64 kk] w fun e w' => e = .returned (.bool true) ∧ Below w.heap.size w w' := by
  go_enter Try.func3, Try.ntmps3
  go_wp2_with fail
  refine (bytes6_any a0 n0 c0 kk ms h0 b0 w l0 hb).mono ?_
  rintro e w' ⟨⟨b, rfl, hbd⟩, hw⟩
  obtain rfl : w = w' := hw.symm
  clear hb hw
  replace hbd := hidden hbd
  cases b with
  | false => go_wp2; go_ret; exact ⟨rfl, Below.refl _ _⟩
  | true =>
  have hr := hidden (hbd.out rfl)
  clear hbd
  unfold maxLen at b0
  by_cases hs : n0 ≤ 4096
  case neg =>
    go_wp2
    go_ret; exact ⟨rfl, Below.refl _ _⟩
  go_wp2
  go_loop [5, 6] (fun t i => ∃ (k m : Nat), k ≤ n0 ∧ i = .int .i64 k ∧ t = .int .i64 m ∧ m ≤ 65536 ∧ Hid (m = (ms.take k).flatten.length)) (fun _ i => n0 - (intOf i).toNat)
  case atStart => exact ⟨0, 0, Nat.zero_le _, rfl, rfl, by omega, hidden (by simp)⟩
  case round =>
    obtain ⟨k, m, hk, rfl, rfl, hm, hM⟩ := hrel
    by_cases hlt : k < n0
    · obtain ⟨r, hp⟩ : ∃ p, ms[k]? = some p := ⟨ms[k], by simp [h0, hlt]⟩
      obtain ⟨b, off, A, c, hao, hbs, e0, _⟩ := l0 k _ hp
      have hrl := hr.out k r hp
      replace hp := hidden hp
      clear hbs
      subst hao
      go_wp2
      case roundEnd =>
        go_round
        case rel =>
          refine ⟨k + 1, m + r.length, by omega, by go_num, by go_num, by omega, hidden ?_⟩
          rw [flat_take_succ hp.out, List.length_append, ← hM.out]
        case measure => simp [intOf]; omega
      all_goals (go_ret; exact ⟨rfl, Below.refl _ _⟩)
    · have hkn : k = n0 := by omega
      have hN : m = ms.flatten.length := by rw [hM.out, List.take_of_length_le (by omega)]
      replace hN := hidden hN
      clear hM
      by_cases hneg : kk < 0
      · go_wp2
        go_ret; exact ⟨rfl, Below.refl _ _⟩
      by_cases hbig : (n0 : Int) < kk
      · go_wp2
        go_ret; exact ⟨rfl, Below.refl _ _⟩
      obtain ⟨ct, rfl⟩ : ∃ ct : Nat, kk = (ct : Int) := ⟨kk.toNat, by omega⟩
      have hct : ct ≤ n0 := by omega
      clear hneg hbig hkn
      go_wp2
      go_loop [7, 8] (fun t i => ∃ (k q : Nat), k ≤ ct ∧ i = .int .i64 k ∧ t = .int .i64 q ∧ q ≤ 65536 ∧ Hid (q = (ms.take k).flatten.length)) (fun _ i => ct - (intOf i).toNat)
      case atStart => exact ⟨0, 0, Nat.zero_le _, rfl, rfl, by omega, hidden (by simp)⟩
      case round =>
        obtain ⟨j, q, hj, rfl, rfl, hq, hQ⟩ := hrel
        by_cases hlt2 : j < ct
        · obtain ⟨r, hp⟩ : ∃ p, ms[j]? = some p := ⟨ms[j], by simp⟩
          obtain ⟨b, off, A, c, hao, hbs, e0, _⟩ := l0 j _ hp
          have hrl := hr.out j r hp
          have hle : q + r.length ≤ m := by
            have h := flat_take_le ms (j + 1)
            rw [flat_take_succ hp, List.length_append, ← hQ.out, ← hN.out] at h
            exact h
          replace hp := hidden hp
          clear hbs
          subst hao
          go_wp2
          case roundEnd =>
            go_round
            case rel =>
              refine ⟨j + 1, q + r.length, by omega, by go_num, by go_num, by omega, hidden ?_⟩
              rw [flat_take_succ hp.out, List.length_append, ← hQ.out]
            case measure => simp [intOf]; omega
        · have hjc : j = ct := by omega
          have hL : q = (ms.take ct).flatten.length := by rw [hQ.out, hjc]
          have hR : m - q = (ms.drop ct).flatten.length ∧ q ≤ m := by
            have h : ms.flatten = (ms.take ct).flatten ++ (ms.drop ct).flatten := by rw [← List.flatten_append, List.take_append_drop]
            rw [hN.out, hL, h, List.length_append]
            omega
          obtain ⟨R, hRe⟩ : ∃ R, R = (ms.drop ct).flatten.length := ⟨_, rfl⟩
          have hmq : m = q + R := by omega
          subst hmq
          clear hjc hR hQ hlt
          replace hL := hidden hL
          replace hRe := hidden hRe
          have st := fun W => slice_take a0 n0 c0 ct (by omega) W
          have sd := fun W => slice_drop a0 n0 c0 ct hct W
          go_wp2_with fail
          refine (build_any a0 n0 c0 ms h0 hs w l0 hr.out).mono ?_
          rintro e w1 ⟨A1, C1, rfl, B1, K1⟩
          replace B1 := hidden B1
          go_wp2_with fail
          refine (new7 A1 n0 C1 _ w1).mono ?_
          rintro e w2 ⟨rfl, hw2⟩
          have P2 : Below w.heap.size w w2 := by rw [hw2]; exact K1.alloc K1.size _
          have S2 : w1.heap.size + 1 = w2.heap.size := by rw [hw2]; simp
          have L2 : OpList w2 w.heap.size w1.heap.size ms := by rw [hw2]; exact OpList.make B1.out K1.size h0 (by rw [← hN.out]; omega)
          clear hw2
          replace L2 := hidden L2
          go_wp2_with fail
          refine (build_any a0 ct c0 (ms.take ct) (by simp [h0]; omega) (by omega) w2 ((l0.below P2).take ct) ?_).mono ?_
          · intro k r hk
            rw [List.getElem?_take] at hk
            split at hk
            · exact hr.out k r hk
            · cases hk
          rintro e w3 ⟨A3, C3, rfl, B3, K3⟩
          replace B3 := hidden B3
          go_wp2_with fail
          refine (new7 A3 ct C3 _ w3).mono ?_
          rintro e w4 ⟨rfl, hw4⟩
          have P4 : Below w2.heap.size w2 w4 := by rw [hw4]; exact K3.alloc K3.size _
          have S4 : w3.heap.size + 1 = w4.heap.size := by rw [hw4]; simp
          have L4 : OpList w4 w2.heap.size w3.heap.size (ms.take ct) := by rw [hw4]; exact OpList.make B3.out K3.size (by simp [h0]; omega) (by rw [hL.out])
          clear hw4
          replace L4 := hidden L4
          go_wp2_with fail
          refine (build_any (cutAt a0 c0 ct) (n0 - ct) (c0 - ct) (ms.drop ct) (by simp [h0]) (by omega) w4 (((l0.below P2).below P4).drop ct (by omega)) ?_).mono ?_
          · intro k r hk
            rw [List.getElem?_drop] at hk
            exact hr.out _ r hk
          rintro e w5 ⟨A5, C5, rfl, B5, K5⟩
          replace B5 := hidden B5
          go_wp2_with fail
          refine (new7 A5 (n0 - ct) C5 _ w5).mono ?_
          rintro e w6 ⟨rfl, hw6⟩
          have P6 : Below w4.heap.size w4 w6 := by rw [hw6]; exact K5.alloc K5.size _
          have S6 : w5.heap.size + 1 = w6.heap.size := by rw [hw6]; simp
          have L6 : OpList w6 w4.heap.size w5.heap.size (ms.drop ct) := by rw [hw6]; exact OpList.make B5.out K5.size (by simp [h0]) (by rw [← hRe.out]; omega)
          clear hw6 B1 B3 B5
          have Z1 := K1.size
          have Z3 := K3.size
          have Z5 := K5.size
          replace L6 := hidden L6
          replace L2 := hidden ((L2.out.below P4).below P6)
          replace L4 := hidden (L4.out.below P6)
          replace P6 := hidden ((P2.trans (P4.mono P2.size)).trans (P6.mono (Nat.le_trans P2.size P4.size)))
          clear P2 P4 K1 K3 K5
          go_wp2_with fail
          refine (all9 w6 w.heap.size w1.heap.size ms (q + R) hN.out.symm L2.out hm (by omega)).mono ?_
          rintro e w7 ⟨A7, C7, rfl, O7, U7, N7⟩
          replace O7 := hidden O7
          replace N7 := hidden N7
          replace U7 := hidden U7
          go_wp2_with fail
          refine (all9 w7 w2.heap.size w3.heap.size (ms.take ct) q hL.out.symm (L4.out.out U7.out (by omega)) (by omega) (by simp; omega)).mono ?_
          rintro e w8 ⟨A8, C8, rfl, O8, U8, _⟩
          replace O8 := hidden O8
          replace U8 := hidden U8
          go_wp2_with fail
          refine (all9 w8 w4.heap.size w5.heap.size (ms.drop ct) R hRe.out.symm ((L6.out.out U7.out (by omega)).out U8.out (by omega)) (by omega) (by simp; omega)).mono ?_
          rintro e w9 ⟨A9, C9, rfl, O9, U9, _⟩
          replace O9 := hidden O9
          replace U9 := hidden U9
          have Z7 := U7.out.size
          have Z8 := U8.out.size
          have Z9 := U9.out.size
          have V7 := hidden ((O7.out.out U8.out (by omega)).out U9.out (by omega))
          have V8 := hidden (O8.out.out U9.out (by omega))
          have V9 := O9
          have N9 : w9.cell? ⟨w1.heap.size, 1, none⟩ = some (.int .i64 0) :=
            (World.cell?_of_block (a := ⟨w1.heap.size, 1, none⟩) (U9.out.block w1.heap.size (by omega) (by omega))).trans
              ((World.cell?_of_block (a := ⟨w1.heap.size, 1, none⟩) (U8.out.block w1.heap.size (by omega) (by omega))).trans N7.out)
          have P9 : Below w.heap.size w w9 := ((P6.out.trans (U7.out.below (Nat.le_refl _) (by omega))).trans (U8.out.below (by omega) (by omega))).trans (U9.out.below (by omega) (by omega))
          clear L2 L4 L6 P6 O7 O8 O9 U7 U8 U9 N7
          replace P9 := hidden P9
          go_wp2
          have F := hidden (show ms.flatten = (ms.take ct).flatten ++ (ms.drop ct).flatten by rw [← List.flatten_append, List.take_append_drop])
          have hlt9 : w1.heap.size < w9.heap.size := by omega
          clear Z1 Z3 Z5 Z7 Z8 Z9 S2 S4 S6 st sd l0 hr
          have hq29 : ∀ (w : World) (a : Option Addr) (n c n' c' : Nat), (binOp .eql 29 (.slice a n c) (.slice none n' c')).run Try.prog w = .ok (.bool a.isNone) w := fun w a n c n' c' => Lib.run_eql_slice_nil w _ _ a n c n' c' Try.underlying29
          go_loopw [15] (fun i wr => ∃ t : Nat, t ≤ q + R ∧ i = .int .i64 t ∧ Below w9.heap.size w9 wr) (fun i _ => q + R - (intOf i).toNat)
          case atStart => exact ⟨0, Nat.zero_le _, rfl, Below.refl _ _⟩
          case round =>
            obtain ⟨t, ht, rfl, hB⟩ := hrel
            by_cases htl : t < q + R
            · obtain ⟨z, hz⟩ : ∃ z, ms.flatten[t]? = some z := ⟨ms.flatten[t]'(by rw [← hN.out]; exact htl), by simp⟩
              obtain ⟨b7, o7, rfl, x0, x1, x2, x3, x4, x5, x6⟩ := (V7.out.below hB).elem hz
              have hne := fun W => neq34 z W
              by_cases hside : t < q
              · have hz2 : (ms.take ct).flatten[t]? = some z := by
                  rw [F.out, List.getElem?_append_left (by rw [← hL.out]; exact hside)] at hz
                  exact hz
                obtain ⟨b8, o8, rfl, y0, y1, y2, y3, y4, y5, y6⟩ := (V8.out.below hB).elem hz2
                clear hz hz2
                go_wp2
                go_quiet (fail)
                go_wp2
                go_roundw
                case rel => exact ⟨t + 1, by omega, by go_num, below_drewN hB nq⟩
                case measure => simp [intOf]; omega
              · obtain ⟨s, rfl⟩ : ∃ s, t = q + s := ⟨t - q, by omega⟩
                have hz2 : (ms.drop ct).flatten[s]? = some z := by
                  rw [F.out, List.getElem?_append_right (by rw [← hL.out]; omega), ← hL.out, Nat.add_sub_cancel_left] at hz
                  exact hz
                obtain ⟨b8, o8, rfl, y0, y1, y2, y3, y4, y5, y6⟩ := (V9.out.below hB).elem hz2
                have hsR : s < R := by omega
                clear hz hz2
                go_wp2
                go_quiet (fail)
                go_wp2
                go_roundw
                case rel => exact ⟨q + s + 1, by omega, by go_num, below_drewN hB nq⟩
                case measure => simp [intOf]; omega
            · have hN' : wr.cell? ⟨w1.heap.size, 1, none⟩ = some (.int .i64 0) := (hB.cell (p := ⟨w1.heap.size, 1, none⟩) hlt9).trans N9
              go_wp2_with fail
              refine (all9_nil wr w1.heap.size hN').mono ?_
              rintro e w10 ⟨rfl, hw10⟩
              obtain rfl : wr = w10 := hw10.symm
              go_wp2
              go_ret
              exact ⟨rfl, P9.out.trans (hB.mono P9.out.size)⟩
end Go.Proofs.Qxb6608766a

import Derived.Test.Qxb6609009aChBuild
namespace Go.Proofs.Qxb6609009a
open Go.RowKit

theorem Try.elem40 : Try.prog.elem 40 = 26 := by kernel_rfl
theorem Try.size26 (w : World) : (sizeOf 26).run Try.prog w = .ok 1 w := by kernel_rfl

/-- 'nodes[1:]' and 'x[:k]' on a slice of pointers -/
theorem ptr_tail (g n : Nat) (w : World) : (Instr.slice 40 (.slice (some ⟨g, 0, none⟩) (n + 1) (n + 1)) (some (.int .i64 1)) none none).run Try.prog w =
    .ok (.slice (if n = 0 then some ⟨g, 0, none⟩ else some ⟨g, 1, none⟩) n n) w := by
  rw [run_slice_l (P := Try.prog) w 40 _ (n + 1) (n + 1) (by rw [Try.elem40]; exact Try.underlying40) .i64 1 (by omega) (by omega), Try.elem40, Try.size26]
  by_cases h : n = 0
  · subst h; simp [Result.andThen, sliced]
  · simp [Result.andThen, sliced, h, Addr.add_lit]

theorem ptr_take (a : Option Addr) (n c k : Nat) (hk : k ≤ c) (w : World) : (Instr.slice 40 (.slice a n c) none (some (.int .i64 (k : Int))) none).run Try.prog w = .ok (.slice a k c) w := by
  rw [run_slice_h (P := Try.prog) w 40 a n c (by rw [Try.elem40]; exact Try.underlying40) .i64 (k : Int) (by omega) (by omega), Try.elem40, Try.size26]
  simp [Result.andThen, sliced, Addr.add]

theorem Ptrs.take {w : World} {a : Option Addr} {bs : List Nat} (h : Ptrs w a bs) (k : Nat) : Ptrs w a (bs.take k) := by
  intro j b hj
  rw [List.getElem?_take] at hj
  split at hj
  · exact h j b hj
  · cases hj

theorem Ptrs.tail {w : World} {g n b : Nat} {bs : List Nat} (hn : bs.length = n) (h : Ptrs w (some ⟨g, 0, none⟩) (b :: bs)) : Ptrs w (if n = 0 then some ⟨g, 0, none⟩ else some ⟨g, 1, none⟩) bs := by
  intro j x hj
  have hlt := (List.getElem?_eq_some_iff.1 hj).1
  obtain ⟨g', off, e, hg, hc⟩ := h (j + 1) x (by simpa using hj)
  simp at e
  obtain ⟨rfl, rfl⟩ := e
  refine ⟨g, 1, if_neg (by omega), hg, ?_⟩
  rw [show 1 + j = 0 + (j + 1) by omega]
  exact hc

theorem chainAll_len (p0 : Option Addr) (bs : List Nat) (N : Nat) (hN : bs.length = N) (hlen : N ≤ 100000) (w : World) (hL : IsChain w.heap.size w p0 bs) :
    Calls Try.prog 14 #[.pointer p0] w fun e W' => ∃ ao cap, e = .returned (.slice ao N cap) ∧ N ≤ cap ∧ Ptrs W' ao bs ∧ Below w.heap.size w W' := by
  subst hN
  exact chainAll_any p0 bs hlen w hL

set_option maxRecDepth 100000 in
set_option maxHeartbeats 1000000 in
theorem law5_core (a0 : Option Addr) (n0 c0 : Nat) (ss : List ByteArray) (h0 : ss.length = n0) (b0 : n0 ≤ 4096) (w : World) (l0 : StrRow w a0 ss) :
    Calls Try.prog 5 #[.slice a0 n0 c0] w fun e w' => e = .returned (.bool true) ∧ Below w.heap.size w w' := by
  have d0 : decide ((4096 : Int) < (n0 : Int)) = false := decide_eq_false (by omega)
  have HB := hidden (bytes12_any a0 n0 c0 ss h0 (by unfold maxLen; omega) w l0)
  go_enter Try.func5, Try.ntmps5
  go_wp2_with fail
  refine HB.out.mono ?_
  rintro e w' ⟨⟨b, rfl⟩, hw⟩
  obtain rfl : w = w' := hw.symm
  clear hw HB
  cases b with
  | false =>
    go_wp2
    go_ret
    exact ⟨rfl, Below.refl _ _⟩
  | true =>
  go_wp2
  go_loop [3, 4] (fun t i => ∃ (k : Nat) (q : Int), k ≤ n0 ∧ i = .int .i64 k ∧ t = .int .i64 q) (fun _ i => n0 - (intOf i).toNat)
  case atStart => exact ⟨0, _, Nat.zero_le _, rfl, rfl⟩
  case round =>
    obtain ⟨k, q, hk, rfl, rfl⟩ := hrel
    by_cases hlt : k < n0
    · obtain ⟨s0, hp⟩ : ∃ p, ss[k]? = some p := ⟨ss[k], by simp [h0, hlt]⟩
      obtain ⟨b, off, hao, hbs, e0⟩ := l0 k _ hp
      clear hp hbs
      subst hao
      go_wp2
      · go_ret; exact ⟨rfl, Below.refl _ _⟩
      · go_round
        case rel => exact ⟨k + 1, _, by omega, by go_num, rfl⟩
        case measure => simp [intOf]; omega
    go_wp2_with fail
    refine (build_any a0 n0 c0 ss h0 (by omega) _ ?hl1).mono ?_
    case hl1 => exact l0
    rintro e w2 ⟨bs, p, rfl, lb, ch, pt, k1⟩
    clear hk hlt
    cases bs with
    | nil =>
      obtain rfl : n0 = 0 := by simpa using lb.symm
      obtain rfl : p = none := ch
      go_wp2_with fail
      refine (chainAll_any none [] (by simp) w2 rfl).mono ?_
      rintro e w3 ⟨o2, c2, rfl, _, p2, k2⟩
      go_wp2_with fail
      refine (same_any o2 _ _ c2 _ [] rfl (by simp) w3 ?hs1 ?hs2).mono ?_
      case hs1 => exact p2
      case hs2 => exact pt.below k2
      rintro e w4 ⟨rfl, k3⟩
      go_wp2
      go_ret
      exact ⟨rfl, stepB (stepB k1 k2) k3⟩
    | cons b bs =>
      obtain ⟨n, hn⟩ : ∃ n, bs.length = n := ⟨_, rfl⟩
      obtain rfl : n0 = n + 1 := by simp at lb; omega
      obtain ⟨q1, hp1, hb1, hq1, hr1⟩ := ch
      have ch : IsChain w2.heap.size w2 p (b :: bs) := ⟨q1, hp1, hb1, hq1, hr1⟩
      subst hp1
      have hc0 : w2.cell? ⟨w.heap.size, 0, none⟩ = some (.pointer (some ⟨b, 0, none⟩)) := by
        obtain ⟨g, off, e, _, hc⟩ := pt 0 b rfl
        simp at e
        obtain ⟨rfl, rfl⟩ := e
        exact hc
      have HN := hidden hn
      have H0 := hidden h0
      clear hn lb h0
      go_wp2_with fail
      refine (chainAll_len _ (b :: bs) (n + 1) (by have := HN.out; simp; omega) (by omega) w2 ch).mono ?_
      rintro e w3 ⟨o2, c2, rfl, _, p2, k2⟩
      have pt3 := pt.below k2
      have hq3 := (k2.cell (p := ⟨b, 5, none⟩) hb1).trans hq1
      have hr3 := hr1.later k2
      have hB3 := stepB k1 k2
      clear hc0 pt ch hr1 hq1 k1
      go_wp2_with fail
      refine (same_any o2 _ (n + 1) c2 _ (b :: bs) (by have := HN.out; simp; omega) (by omega) w3 ?ht1 ?ht2).mono ?_
      case ht1 => exact p2
      case ht2 => exact pt3
      rintro e w4 ⟨rfl, k3⟩
      have hq4 := (k3.cell (p := ⟨b, 5, none⟩) (Nat.lt_of_lt_of_le hb1 k2.size)).trans hq3
      have hr4 := hr3.later k3
      have pt4 := pt3.below k3
      have hB4 := stepB hB3 k3
      clear hq3 hr3 pt3 hB3 k2 k3 p2
      go_wp2_with fail
      refine (chainAll_len q1 bs n HN.out (by omega) w4 hr4).mono ?_
      rintro e w5 ⟨o3, c3, rfl, _, p3, k4⟩
      have pt5 := (pt4.below k4).tail HN.out
      have hB5 := stepB hB4 k4
      obtain ⟨ad, had⟩ : ∃ ad, (if n = 0 then some (⟨w.heap.size, 0, none⟩ : Addr) else some ⟨w.heap.size, 1, none⟩) = ad := ⟨_, rfl⟩
      have st : ∀ W, (Instr.slice 40 (.slice (some ⟨w.heap.size, 0, none⟩) (n + 1) (n + 1)) (some (.int .i64 1)) none none).run Try.prog W = .ok (.slice ad n n) W := fun W => by rw [← had]; exact ptr_tail w.heap.size n W
      rw [had] at pt5
      clear had
      clear hq4 hr4 pt4 hB4 k4
      go_wp2_with fail
      refine (same_any o3 _ n c3 _ bs HN.out (by omega) w5 ?ht3 ?ht4).mono ?_
      case ht3 => exact p3
      case ht4 => exact pt5
      rintro e w6 ⟨rfl, k5⟩
      go_wp2
      go_ret
      exact ⟨rfl, stepB hB5 k5⟩
end Go.Proofs.Qxb6609009a

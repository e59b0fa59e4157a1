import Derived.Test.Qxb6609009aLkInsA
namespace Go.Proofs.Qxb6609009a
open Go.RowKit

/-- what stands throughout the drawn statement -/
def RegS (bx : Nat) (x0 x1 : ByteArray) (w3 : World) (xs : List (ByteArray × ByteArray)) (w' : World) : Prop :=
  w'.cell? ⟨bx, 0, none⟩ = some (.string x0) ∧ w'.cell? ⟨bx, 1, none⟩ = some (.string x1) ∧ Below w3.heap.size w3 w' ∧ Tagged w' w3.heap.size xs
section
variable {bx : Nat} {x0 x1 : ByteArray} {w3 w' w'' : World} {xs : List (ByteArray × ByteArray)}
theorem RegS.call (hb : Below w'.heap.size w' w'') (h : RegS bx x0 x1 w3 xs w') : RegS bx x0 x1 w3 xs w'' := by
  have t : Two w'' bx (.string x0) (.string x1) := Two.below (w := w') ⟨h.1, h.2.1⟩ hb
  exact ⟨t.1, t.2, step_below h.2.2.1 hb, h.2.2.2.below hb⟩
theorem RegS.alloc (h : RegS bx x0 x1 w3 xs w') (o : Obj) : RegS bx x0 x1 w3 xs (w'.alloc o) := RegS.call (alloc_below _ _) h
theorem RegS.drew (h : RegS bx x0 x1 w3 xs w') : RegS bx x0 x1 w3 xs w'.drew := RegS.call (Below.refl _ _).drew h
theorem RegS.lies {a0 : Option Addr} {ys : List (ByteArray × ByteArray)} (m : Lies w3 a0 ys) (h : RegS bx x0 x1 w3 xs w') : Lies w' a0 ys := m.below h.2.2.1
end
theorem ins_at (w : World) (n : Nat) (hn : n = w.heap.size) {x0 x1 : ByteArray} : Lies (w.alloc (.cells #[.string x0, .string x1] 34)) (some ⟨n, 0, none⟩) [(x0, x1)] := by
  subst hn
  intro k p h
  cases k with
  | zero => simp at h; subst h; exact ⟨_, _, rfl, by simp, by simp, by simp⟩
  | succ k => simp at h

theorem two_at (w : World) (n : Nat) (hn : n = w.heap.size) (x y : Value) (t : TypeId) : Two (w.alloc (.cells #[x, y] t)) n x y := by
  subst hn
  exact two_new w x y t

set_option maxRecDepth 100000 in
set_option maxHeartbeats 2000000 in
theorem law4_core (a0 : Option Addr) (n0 c0 : Nat) (p : Int) (x0 x1 nm : ByteArray) (xs : List (ByteArray × ByteArray)) (h0 : xs.length = n0) (hnc : n0 ≤ c0)
    (b0 : n0 ≤ 4096) (b1 : x0.size ≤ 65536) (b2 : x1.size ≤ 65536) (b3 : nm.size ≤ 65536) (w : World) (l0 : Lies w a0 xs) :
    Calls Try.prog 4 #[.slice a0 n0 c0, .int .i64 p, .string x0, .string x1, .string nm] w fun e w' => e = .returned (.bool true) ∧ Below w.heap.size w w' := by
  have d0 : decide ((4096 : Int) < (n0 : Int)) = false := decide_eq_false (by omega)
  have d1 : decide ((65536 : Int) < (x0.size : Int)) = false := decide_eq_false (by omega)
  have d2 : decide ((65536 : Int) < (x1.size : Int)) = false := decide_eq_false (by omega)
  have d3 : decide ((65536 : Int) < (nm.size : Int)) = false := decide_eq_false (by omega)
  have HB := hid_intro (bytes11_any a0 n0 c0 p x0 x1 nm xs h0 (by unfold maxLen; omega) w l0)
  go_enter Try.func4, Try.ntmps4
  go_wp2_with fail
  refine HB.out.mono ?_
  rintro e w' ⟨⟨b, rfl⟩, hw⟩
  obtain rfl : w = w' := hw.symm
  clear hw HB
  cases b with
  | false =>
    go_wp2
    go_ret
    exact ⟨rfl, Below.refl _ _⟩
  | true =>
  go_wp2
  go_loopw [11, 12] (fun t i wr => ∃ (k : Nat) (q : Int), k ≤ n0 ∧ i = .int .i64 k ∧ t = .int .i64 q ∧ Below w.heap.size w wr) (fun _ i _ => n0 - (intOf i).toNat)
  case atStart => exact ⟨0, _, Nat.zero_le _, rfl, rfl, Below.refl _ _⟩
  case round =>
    obtain ⟨k, q, hk, rfl, rfl, hB⟩ := hrel
    by_cases hlt : k < n0
    · obtain ⟨⟨s0, s1⟩, hp⟩ : ∃ p, xs[k]? = some p := ⟨xs[k], by simp [h0, hlt]⟩
      obtain ⟨b, off, hao, hbs, e0, e1⟩ := l0 k _ hp
      have e0' : wr.cell? ⟨b, off + k * 2, none⟩ = some (.string s0) := (hB.cell (p := ⟨b, _, none⟩) hbs).trans e0
      have e1' : wr.cell? ⟨b, off + k * 2 + 1, none⟩ = some (.string s1) := (hB.cell (p := ⟨b, _, none⟩) hbs).trans e1
      clear hp hbs e0 e1
      subst hao
      go_wp2
      go_quiet (fail)
      go_wp2
      · go_ret; exact ⟨rfl, below_drewN hB nq⟩
      · go_roundw
        case rel => exact ⟨k + 1, _, by omega, by go_num, rfl, below_drewN hB nq⟩
        case measure => simp [intOf]; omega
    by_cases hp0 : p < 0
    · have z0 : decide (p < 0) = true := decide_eq_true hp0
      go_wp2
      go_ret
      exact ⟨rfl, hB⟩
    have z0 : decide (p < 0) = false := decide_eq_false hp0
    by_cases hp1 : (n0 : Int) < p
    · have z1 : decide ((n0 : Int) < p) = true := decide_eq_true hp1
      go_wp2
      go_ret
      exact ⟨rfl, hB⟩
    have z1 : decide ((n0 : Int) < p) = false := decide_eq_false hp1
    obtain ⟨pn, rfl⟩ := Int.eq_ofNat_of_zero_le (by omega : 0 ≤ p)
    have hpn : pn ≤ n0 := by omega
    have z2 : decide (n0 < pn) = false := decide_eq_false (by omega)
    clear z1
    have st := fun W => slice_take a0 n0 c0 pn (by omega) W
    have sd := fun W => slice_drop a0 n0 c0 pn hpn W
    have m0 : Lies wr a0 xs := l0.below hB
    obtain ⟨B0, B1, okB, X0, X1, R0, R1, okR, hLB, hLX, hc1, hLR, hc2⟩ := cases4 xs pn x0 x1 nm
    have HC1 := hid_intro hc1
    have HC2 := hid_intro hc2
    have HP := hid_intro hpn
    have HNC := hid_intro hnc
    clear hc1 hc2 hpn hnc hp1 hp0 l0
    go_wp2_with fail
    refine (toTag_any a0 pn c0 (xs.take pn) (by have := HP.out; simp; omega) (by have := HP.out; omega) _ ?hl1).mono ?_
    case hl1 => exact (m0.below (alloc_below _ _)).take pn
    rintro e w2 ⟨o1, e1, rfl, t1, k1⟩
    have X := (two_new wr (.string x0) (.string x1) 34).below k1
    replace hB := step_below (step_below hB (alloc_below _ _)) k1
    replace m0 := (m0.below (alloc_below _ _)).below k1
    clear k1
    go_wp2_with fail
    refine (toTag_any a0 n0 c0 xs h0 (by omega) _ ?hl2).mono ?_
    case hl2 => exact m0.below (alloc_below _ _)
    rintro e w3 ⟨o2, e2, rfl, t2, k2⟩
    have TB := (tag_new t1 (by have := HP.out; simp; omega) (by have := HP.out; omega)).below k2
    replace X := (X.below (alloc_below _ _)).below k2
    replace hB := step_below (step_below hB (alloc_below _ _)) k2
    replace m0 := (m0.below (alloc_below _ _)).below k2
    clear k2 t1
    have zx := World.block_lt_of_cell? _ _ X.1
    dsimp only at zx
    have Xs := X
    obtain ⟨cx0, cx1⟩ := X
    go_wp2_with fail
    have TKL : (xs.take pn).length = pn := by have := HP.out; simp; omega
    have DRL : (xs.drop pn).length = n0 - pn := by simp; omega
    have PB : pn ≤ 100000 := by have := HP.out; omega
    have HL := hid_intro (And.intro TKL (And.intro DRL PB))
    have T0 := tag_new (v0 := .int .i64 0) (v1 := .int .i64 0) (v2 := .string ⟨#[]⟩) (cap := e2) (v4 := .string ⟨#[]⟩) (v5 := .pointer none) (v6 := .nilIface) t2 h0 (by omega)
    have s0 : RegS wr.heap.size x0 x1 w3 xs (w3.alloc (.cells #[.int .i64 0, .int .i64 0, .string ⟨#[]⟩, .slice o2 n0 e2, .string ⟨#[]⟩, .pointer none, .nilIface] 32)) := ⟨(Xs.below (alloc_below _ _)).1, (Xs.below (alloc_below _ _)).2, alloc_below _ _, T0⟩
    unfold RegS at s0
    clear TKL DRL PB T0 t2
    go_region_held3 (fun w' => w'.cell? ⟨wr.heap.size, 0, none⟩ = some (.string x0) ∧ w'.cell? ⟨wr.heap.size, 1, none⟩ = some (.string x1) ∧ Below w3.heap.size w3 w' ∧ Tagged w' w3.heap.size xs)
      (first | assumption | exact RegS.drew (by assumption) | exact RegS.alloc (by assumption) _ | exact RegS.call (by assumption) (by assumption))
      (first
        | (go_at_call_of 8 (Value.slice a0 pn c0); refine (toTag_any a0 pn c0 (xs.take pn) HL.out.1 HL.out.2.2 _ ?_).mono ?_; exact (RegS.lies m0 (by assumption)).take pn; rintro e w5 ⟨o3, e3, rfl, t3, k3⟩)
        | (go_at_call_of 8 (Value.slice (cutAt a0 c0 pn) (n0 - pn) (c0 - pn)); refine (toTag_any (cutAt a0 c0 pn) (n0 - pn) (c0 - pn) (xs.drop pn) HL.out.2.1 (by omega) _ ?_).mono ?_; exact (RegS.lies m0 (by assumption)).drop pn (by rw [h0]; exact HNC.out); rintro e w6 ⟨o4, e4, rfl, t4, k4⟩)
        | (go_at_call 9; refine (join_any o3 _ o4 pn 1 (n0 - pn) e3 1 e4 (xs.take pn) [(x0, x1)] (xs.drop pn) HL.out.1 rfl HL.out.2.1 HL.out.2.2 (by omega) (by omega) _ ?_ ?_ ?_).mono ?_; (first | exact t3.below k4 | exact (t3.below (alloc_below _ _)).below k4 | exact (t3.below k4).below (alloc_below _ _)); (first | exact (ins_at _ _ rfl).below k4 | exact ins_at _ _ rfl | exact (((ins_lies w3 _ x0 x1).below (Below.refl _ _).drew).below k3).below k4); (first | exact t4 | exact t4.below (alloc_below _ _)); rintro e w7 ⟨o5, e5, rfl, t5, k5⟩))
    all_goals
      have hS := ‹_ ∧ _ ∧ Below w3.heap.size w3 (World.alloc w7 _) ∧ _›
      have L1 : (xs.take pn ++ [(x0, x1)] ++ xs.drop pn).length = pn + 1 + (n0 - pn) := by rw [List.length_append, List.length_append, HL.out.1, HL.out.2.1]; rfl
      have T1 := tag_new (v0 := .int .i64 0) (v1 := .int .i64 0) (v2 := .string ⟨#[]⟩) (cap := e5) (v4 := .string ⟨#[]⟩) (v5 := .pointer none) (v6 := .nilIface) t5 L1 (by have := HP.out; omega)
      have T0 := hS.2.2.2
      have TB1 := TB.below hS.2.2.1
      have X1' := Xs.below hS.2.2.1
      have hB1 := step_below hB hS.2.2.1
      clear hS L1 TB Xs hB cx0 cx1 s0 HL t3 k3 t4 k4 t5 k5 m0 zx
      go_wp2_with fail
      refine (lookup_tag TB1 hLB).mono ?_
      rintro e w8 ⟨rfl, k6⟩
      replace T0 := T0.below k6
      replace T1 := T1.below k6
      have hB2 := step_below hB1 k6
      replace X1' := X1'.below k6
      clear hB1 k6 TB1 hLB
      obtain ⟨cx0, cx1⟩ := X1'
      have zx := World.block_lt_of_cell? _ _ cx0
      dsimp only at zx
      have hc1 := HC1.out
      clear HC1
      rcases hc1 with ⟨g1, g2, g3⟩ | ⟨g1, g2, g3⟩
      · subst g1
        obtain rfl : B0 = X0 := g2.symm
        obtain rfl : B1 = X1 := g3.symm
        go_wp2_with fail
        refine (lookup_tag ((T1.below (alloc_below _ _)).below (alloc_below _ _)) hLX).mono ?_
        rintro e w9 ⟨rfl, k7⟩
        have WW := (two_at (w8.alloc (.cells #[.string B0, .string B1] 34)) (w8.heap.size + 1) (by simp) (.string B0) (.string B1) 34).below k7
        replace T0 := ((T0.below (alloc_below _ _)).below (alloc_below _ _)).below k7
        replace T1 := ((T1.below (alloc_below _ _)).below (alloc_below _ _)).below k7
        have hB3 := step_below (step_below (step_below hB2 (alloc_below _ _)) (alloc_below _ _)) k7
        clear k7 hB2 hLX cx0 cx1 zx
        obtain ⟨cw0, cw1⟩ := WW
        have zw := World.block_lt_of_cell? _ _ cw0
        dsimp only at zw
        cases hxn : (x0.toList == nm.toList) with
        | true =>
          go_wp2
          go_ret
          exact ⟨rfl, step_below hB3 (alloc_below _ _)⟩
        | false =>
          have hLN := HC2.out hxn
          go_wp2_with fail
          refine (lookup_tag (T0.below (alloc_below _ _)) hLR).mono ?_
          rintro e w10 ⟨rfl, k8⟩
          replace T1 := (T1.below (alloc_below _ _)).below k8
          have hB4 := step_below (step_below hB3 (alloc_below _ _)) k8
          clear k8 hB3 hLR cw0 cw1 zw T0
          go_wp2_with fail
          refine (lookup_tag (T1.below (alloc_below _ _)) hLN).mono ?_
          rintro e w11 ⟨rfl, k9⟩
          have RR := (two_new w10 (.string R0) (.string R1) 34).below k9
          have hB5 := step_below (step_below hB4 (alloc_below _ _)) k9
          clear k9 hB4 T1 hLN
          obtain ⟨cr0, cr1⟩ := RR
          have zr := World.block_lt_of_cell? _ _ cr0
          dsimp only at zr
          go_wp2
          go_ret
          exact ⟨rfl, step_below hB5 (alloc_below _ _)⟩
      · subst g1
        obtain rfl : x0 = X0 := g2.symm
        obtain rfl : x1 = X1 := g3.symm
        go_wp2_with fail
        refine (lookup_tag ((T1.below (alloc_below _ _)).below (alloc_below _ _)) hLX).mono ?_
        rintro e w9 ⟨rfl, k7⟩
        have WW := (two_at (w8.alloc (.cells #[.string B0, .string B1] 34)) (w8.heap.size + 1) (by simp) (.string x0) (.string x1) 34).below k7
        replace T0 := ((T0.below (alloc_below _ _)).below (alloc_below _ _)).below k7
        replace T1 := ((T1.below (alloc_below _ _)).below (alloc_below _ _)).below k7
        have hB3 := step_below (step_below (step_below hB2 (alloc_below _ _)) (alloc_below _ _)) k7
        clear k7 hB2 hLX cx0 cx1 zx
        obtain ⟨cw0, cw1⟩ := WW
        have zw := World.block_lt_of_cell? _ _ cw0
        dsimp only at zw
        cases hxn : (x0.toList == nm.toList) with
        | true =>
          go_wp2
          go_ret
          exact ⟨rfl, step_below hB3 (alloc_below _ _)⟩
        | false =>
          have hLN := HC2.out hxn
          go_wp2_with fail
          refine (lookup_tag (T0.below (alloc_below _ _)) hLR).mono ?_
          rintro e w10 ⟨rfl, k8⟩
          replace T1 := (T1.below (alloc_below _ _)).below k8
          have hB4 := step_below (step_below hB3 (alloc_below _ _)) k8
          clear k8 hB3 hLR cw0 cw1 zw T0
          go_wp2_with fail
          refine (lookup_tag (T1.below (alloc_below _ _)) hLN).mono ?_
          rintro e w11 ⟨rfl, k9⟩
          have RR := (two_new w10 (.string R0) (.string R1) 34).below k9
          have hB5 := step_below (step_below hB4 (alloc_below _ _)) k9
          clear k9 hB4 T1 hLN
          obtain ⟨cr0, cr1⟩ := RR
          have zr := World.block_lt_of_cell? _ _ cr0
          dsimp only at zr
          go_wp2
          go_ret
          exact ⟨rfl, step_below hB5 (alloc_below _ _)⟩
end Go.Proofs.Qxb6609009a

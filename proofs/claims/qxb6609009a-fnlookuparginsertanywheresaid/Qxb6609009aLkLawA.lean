import Derived.Test.Qxb6609009aLkJoin
import Derived.Test.Qxb6609009aLkBytes
namespace Go.Proofs.Qxb6609009a
open Go.RowKit

/-- a tag in memory whose Args are xs -/
def Tagged (w : World) (bt : Nat) (xs : List (ByteArray × ByteArray)) : Prop :=
  ∃ ao n cap, w.cell? ⟨bt, 3, none⟩ = some (.slice ao n cap) ∧ xs.length = n ∧ n ≤ 100000 ∧ Lies w ao xs

theorem Tagged.below {w w' : World} {bt : Nat} {xs : List (ByteArray × ByteArray)} (h : Tagged w bt xs) (hb : Below w.heap.size w w') : Tagged w' bt xs := by
  obtain ⟨ao, n, cap, h1, h2, h3, h4⟩ := h
  exact ⟨ao, n, cap, (hb.cell (World.block_lt_of_cell? w _ h1)).trans h1, h2, h3, h4.below hb⟩

/-- what LookupArg answers -/
def Looks (xs : List (ByteArray × ByteArray)) (nm s0 s1 : ByteArray) (ok : Bool) : Prop := res (look xs nm) = (s0, s1) ∧ (look xs nm).isSome = ok

theorem lookup_tag {bt : Nat} {nm : ByteArray} {xs : List (ByteArray × ByteArray)} {s0 s1 : ByteArray} {ok : Bool} {w : World} (ht : Tagged w bt xs) (hl : Looks xs nm s0 s1 ok) :
    Calls Try.prog 10 #[.pointer (some ⟨bt, 0, none⟩), .string nm] w fun e w' => e = .returned (.tuple #[.agg #[.string s0, .string s1], .bool ok]) ∧ Below w.heap.size w w' := by
  obtain ⟨ao, n, cap, h1, h2, h3, h4⟩ := ht
  refine (lookup_any bt ao n cap nm xs h2 h3 w h4 h1).mono ?_
  rintro e w' ⟨rfl, hb⟩
  refine ⟨?_, hb⟩
  rw [hl.1, hl.2]

theorem step_below {w W W' : World} (h : Below w.heap.size w W) (h' : Below W.heap.size W W') : Below w.heap.size w W' := h.trans (h'.mono h.size)
theorem alloc_below (W : World) (o : Obj) : Below W.heap.size W (W.alloc o) := (Below.refl _ _).alloc (Nat.le_refl _) _

theorem hid_intro {p : Prop} (h : p) : Hid p := h
theorem lies_nil (w : World) (ao : Option Addr) : Lies w ao [] := by intro k p h; simp at h
theorem tag_new {w : World} {ao : Option Addr} {n cap : Nat} {xs : List (ByteArray × ByteArray)} {v0 v1 v2 v4 v5 v6 : Value} (h : Lies w ao xs) (hn : xs.length = n) (hb : n ≤ 100000) :
    Tagged (w.alloc (.cells #[v0, v1, v2, .slice ao n cap, v4, v5, v6] 32)) w.heap.size xs :=
  ⟨ao, n, cap, by simp, hn, hb, h.below (alloc_below _ _)⟩

theorem ins_lies (w : World) (o : Obj) (nm v : ByteArray) : Lies ((w.alloc o).alloc (.cells #[.string nm, .string v] 34)) (some ⟨w.heap.size + 1, 0, none⟩) [(nm, v)] := by
  intro k p h
  cases k with
  | zero => simp at h; subst h; exact ⟨_, _, rfl, by simp, by simp [World.cell?_alloc_at], by simp [World.cell?_alloc_at]⟩
  | succ k => simp at h
/-- two cells of a block -/
def Two (w : World) (b : Nat) (x y : Value) : Prop := w.cell? ⟨b, 0, none⟩ = some x ∧ w.cell? ⟨b, 1, none⟩ = some y
theorem Two.below {w w' : World} {b : Nat} {x y : Value} (h : Two w b x y) (hb : Below w.heap.size w w') : Two w' b x y :=
  ⟨(hb.cell (World.block_lt_of_cell? w _ h.1)).trans h.1, (hb.cell (World.block_lt_of_cell? w _ h.2)).trans h.2⟩
theorem two_new (w : World) (x y : Value) (t : TypeId) : Two (w.alloc (.cells #[x, y] t)) w.heap.size x y := ⟨by simp, by simp⟩

theorem cases3 (xs ys : List (ByteArray × ByteArray)) (nm v : ByteArray) : ∃ A0 A1 okA B0 B1 okB C0 C1 okC X0 X1, Looks xs nm A0 A1 okA ∧ Looks ys nm B0 B1 okB ∧ Looks (xs ++ [] ++ ys) nm C0 C1 okC ∧ Looks (xs ++ [(nm, v)] ++ ys) nm X0 X1 true ∧
    ((okA = true ∧ C0 = A0 ∧ C1 = A1 ∧ okC = true ∧ X0 = A0 ∧ X1 = A1) ∨ (okA = false ∧ okB = true ∧ C0 = B0 ∧ C1 = B1 ∧ okC = true ∧ X0 = nm ∧ X1 = v) ∨ (okA = false ∧ okB = false ∧ C0 = ⟨#[]⟩ ∧ C1 = ⟨#[]⟩ ∧ okC = false ∧ X0 = nm ∧ X1 = v)) := by
  have hin : look [(nm, v)] nm = some (nm, v) := by simp [look]
  cases hA : look xs nm with
  | some r =>
    refine ⟨r.1, r.2, true, _, _, _, r.1, r.2, true, r.1, r.2, ⟨by simp [hA, res], by simp [hA]⟩, ⟨rfl, rfl⟩, ⟨by simp [look_append, hA, res], by simp [look_append, hA]⟩, ⟨by simp [look_append, hA, res], by simp [look_append, hA]⟩, .inl ⟨rfl, rfl, rfl, rfl, rfl, rfl⟩⟩
  | none =>
    cases hB : look ys nm with
    | some r =>
      refine ⟨_, _, false, r.1, r.2, true, r.1, r.2, true, nm, v, ⟨rfl, by simp [hA]⟩, ⟨by simp [hB, res], by simp [hB]⟩, ⟨by simp [look_append, hA, hB, res], by simp [look_append, hA, hB]⟩, ⟨by rw [look_append, look_append, hA, hin]; rfl, by rw [look_append, look_append, hA, hin]; rfl⟩, .inr (.inl ⟨rfl, rfl, rfl, rfl, rfl, rfl, rfl⟩)⟩
    | none =>
      refine ⟨_, _, false, _, _, false, ⟨#[]⟩, ⟨#[]⟩, false, nm, v, ⟨rfl, by simp [hA]⟩, ⟨rfl, by simp [hB]⟩, ⟨by simp [look_append, hA, hB, res], by simp [look_append, hA, hB]⟩, ⟨by rw [look_append, look_append, hA, hin]; rfl, by rw [look_append, look_append, hA, hin]; rfl⟩, .inr (.inr ⟨rfl, rfl, rfl, rfl, rfl, rfl, rfl⟩)⟩

set_option maxRecDepth 100000 in
set_option maxHeartbeats 1000000 in
theorem law3_core (a0 a1 : Option Addr) (n0 n1 c0 c1 : Nat) (nm v : ByteArray) (xs ys : List (ByteArray × ByteArray)) (h0 : xs.length = n0) (h1 : ys.length = n1)
    (b0 : n0 ≤ 4096) (b1 : n1 ≤ 4096) (b2 : nm.size ≤ 65536) (b3 : v.size ≤ 65536) (w : World) (l0 : Lies w a0 xs) (l1 : Lies w a1 ys) :
    Calls Try.prog 3 #[.slice a0 n0 c0, .slice a1 n1 c1, .string nm, .string v] w fun e w' => e = .returned (.bool true) ∧ Below w.heap.size w w' := by
  obtain ⟨A0, A1, okA, B0, B1, okB, C0, C1, okC, X0, X1, hLA, hLB, hLC, hLX, hcase0⟩ := cases3 xs ys nm v
  have d0 : decide ((4096 : Int) < (n0 : Int)) = false := decide_eq_false (by omega)
  have d1 : decide ((4096 : Int) < (n1 : Int)) = false := decide_eq_false (by omega)
  have d2 : decide ((65536 : Int) < (nm.size : Int)) = false := decide_eq_false (by omega)
  have d3 : decide ((65536 : Int) < (v.size : Int)) = false := decide_eq_false (by omega)
  have HC := hid_intro hcase0
  clear hcase0
  go_enter Try.func3, Try.ntmps3
  go_wp2_with fail
  refine (bytes7_any a0 a1 n0 n1 c0 c1 nm v xs ys h0 h1 (by unfold maxLen; omega) (by unfold maxLen; omega) w l0 l1).mono ?_
  rintro e w' ⟨⟨b, rfl⟩, hw⟩
  obtain rfl : w = w' := hw.symm
  clear hw
  cases b with
  | false =>
    go_wp2
    go_ret
    exact ⟨rfl, Below.refl _ _⟩
  | true =>
  go_wp2
  go_loopw [9, 10] (fun t i wr => ∃ (k : Nat) (q : Int), k ≤ n0 ∧ i = .int .i64 k ∧ t = .int .i64 q ∧ Below w.heap.size w wr) (fun _ i _ => n0 - (intOf i).toNat)
  case atStart => exact ⟨0, _, Nat.zero_le _, rfl, rfl, Below.refl _ _⟩
  case round =>
    obtain ⟨k, q, hk, rfl, rfl, hB⟩ := hrel
    by_cases hlt : k < n0
    · obtain ⟨⟨s0, s1⟩, hp⟩ : ∃ p, xs[k]? = some p := ⟨xs[k], by simp [h0, hlt]⟩
      obtain ⟨b, off, hao, hbs, e0, e1⟩ := l0 k _ hp
      have e0' : wr.cell? ⟨b, off + k * 2, none⟩ = some (.string s0) := (hB.cell (p := ⟨b, _, none⟩) hbs).trans e0
      have e1' : wr.cell? ⟨b, off + k * 2 + 1, none⟩ = some (.string s1) := (hB.cell (p := ⟨b, _, none⟩) hbs).trans e1
      clear hp hbs e0 e1
      subst hao
      go_wp2
      go_quiet (fail)
      go_wp2
      · go_ret; exact ⟨rfl, below_drewN hB nq⟩
      · go_roundw
        case rel => exact ⟨k + 1, _, by omega, by go_num, rfl, below_drewN hB nq⟩
        case measure => simp [intOf]; omega
    · go_wp2
      go_loopw [9, 11] (fun t i wr => ∃ (k : Nat) (q : Int), k ≤ n1 ∧ i = .int .i64 k ∧ t = .int .i64 q ∧ Below w.heap.size w wr) (fun _ i _ => n1 - (intOf i).toNat)
      case atStart => exact ⟨0, _, Nat.zero_le _, rfl, rfl, hB⟩
      case round =>
        clear hk hlt hB
        obtain ⟨k, q, hk, rfl, rfl, hB⟩ := hrel
        by_cases hlt : k < n1
        · obtain ⟨⟨s0, s1⟩, hp⟩ : ∃ p, ys[k]? = some p := ⟨ys[k], by simp [h1, hlt]⟩
          obtain ⟨b, off, hao, hbs, e0, e1⟩ := l1 k _ hp
          have e0' : wr.cell? ⟨b, off + k * 2, none⟩ = some (.string s0) := (hB.cell (p := ⟨b, _, none⟩) hbs).trans e0
          have e1' : wr.cell? ⟨b, off + k * 2 + 1, none⟩ = some (.string s1) := (hB.cell (p := ⟨b, _, none⟩) hbs).trans e1
          clear hp hbs e0 e1
          subst hao
          go_wp2
          go_quiet (fail)
          go_wp2
          · go_ret; exact ⟨rfl, below_drewN hB nq⟩
          · go_roundw
            case rel => exact ⟨k + 1, _, by omega, by go_num, rfl, below_drewN hB nq⟩
            case measure => simp [intOf]; omega
        · have m0 : Lies wr a0 xs := l0.below hB
          have m1 : Lies wr a1 ys := l1.below hB
          go_wp2_with fail
          clear hk hlt l0 l1
          refine (toTag_any a0 n0 c0 xs h0 (by omega) wr m0).mono ?_
          rintro e w2 ⟨o1, e1, rfl, t1, k1⟩
          replace hB := step_below hB k1
          replace m0 := m0.below k1
          replace m1 := m1.below k1
          clear k1
          go_wp2_with fail
          refine (toTag_any a1 n1 c1 ys h1 (by omega) _ ?hl2).mono ?_
          case hl2 => exact m1.below (alloc_below _ _)
          rintro e w3 ⟨o2, e2, rfl, t2, k2⟩
          have T1 := (tag_new t1 h0 (by omega)).below k2
          replace hB := step_below (step_below hB (alloc_below _ _)) k2
          replace m0 := (m0.below (alloc_below _ _)).below k2
          replace m1 := (m1.below (alloc_below _ _)).below k2
          clear k2 t1
          go_wp2_with fail
          refine (toTag_any a0 n0 c0 xs h0 (by omega) _ ?hl3).mono ?_
          case hl3 => exact m0.below (alloc_below _ _)
          rintro e w4 ⟨o3, e3, rfl, t3, k3⟩
          have T2 := (tag_new t2 h1 (by omega)).below k3
          replace T1 := (T1.below (alloc_below _ _)).below k3
          replace hB := step_below (step_below hB (alloc_below _ _)) k3
          replace m0 := (m0.below (alloc_below _ _)).below k3
          replace m1 := (m1.below (alloc_below _ _)).below k3
          clear k3 t2
          go_wp2_with fail
          refine (toTag_any a1 n1 c1 ys h1 (by omega) _ ?hl4).mono ?_
          case hl4 => exact m1
          rintro e w5 ⟨o4, e4, rfl, t4, k4⟩
          replace t3 := t3.below k4
          replace T1 := T1.below k4
          replace T2 := T2.below k4
          replace hB := step_below hB k4
          replace m0 := m0.below k4
          replace m1 := m1.below k4
          clear k4
          go_wp2_with fail
          refine (join_any o3 none o4 n0 0 n1 e3 0 e4 xs [] ys h0 rfl h1 (by omega) (by omega) (by omega) _ ?hl5 ?hl6 ?hl7).mono ?_
          case hl5 => exact t3
          case hl6 => exact lies_nil _ _
          case hl7 => exact t4
          rintro e w6 ⟨o5, e5, rfl, t5, k5⟩
          replace T1 := T1.below k5
          replace T2 := T2.below k5
          replace hB := step_below hB k5
          replace m0 := m0.below k5
          replace m1 := m1.below k5
          clear k5 t3 t4
          go_wp2_with fail
          refine (toTag_any a0 n0 c0 xs h0 (by omega) _ ?hl8).mono ?_
          case hl8 => exact (m0.below (alloc_below _ _)).below (alloc_below _ _)
          rintro e w7 ⟨o6, e6, rfl, t6, k6⟩
          have I := (ins_lies w6 _ nm v).below k6
          have T3 := ((tag_new t5 (by simp; omega) (by omega)).below (alloc_below _ _)).below k6
          replace T1 := ((T1.below (alloc_below _ _)).below (alloc_below _ _)).below k6
          replace T2 := ((T2.below (alloc_below _ _)).below (alloc_below _ _)).below k6
          replace hB := step_below (step_below (step_below hB (alloc_below _ _)) (alloc_below _ _)) k6
          replace m1 := ((m1.below (alloc_below _ _)).below (alloc_below _ _)).below k6
          clear k6 t5 m0
          go_wp2_with fail
          refine (toTag_any a1 n1 c1 ys h1 (by omega) _ ?hl9).mono ?_
          case hl9 => exact m1
          rintro e w8 ⟨o7, e7, rfl, t7, k7⟩
          replace I := I.below k7
          replace t6 := t6.below k7
          replace T1 := T1.below k7
          replace T2 := T2.below k7
          replace T3 := T3.below k7
          replace hB := step_below hB k7
          clear k7 m1
          go_wp2_with fail
          refine (join_any o6 (some ⟨w6.heap.size + 1, 0, none⟩) o7 n0 1 n1 e6 1 e7 xs [(nm, v)] ys h0 rfl h1 (by omega) (by omega) (by omega) _ ?hl10 ?hl11 ?hl12).mono ?_
          case hl10 => exact t6
          case hl11 => exact I
          case hl12 => exact t7
          rintro e w9 ⟨o8, e8, rfl, t8, k8⟩
          replace T1 := T1.below k8
          replace T2 := T2.below k8
          replace T3 := T3.below k8
          replace hB := step_below hB k8
          clear k8 t6 t7 I
          go_wp2_with fail
          refine (lookup_tag (T1.below (alloc_below _ _)) hLA).mono ?_
          rintro e w10 ⟨rfl, k9⟩
          have T4 := (tag_new t8 (by simp; omega) (by omega)).below k9
          replace T2 := (T2.below (alloc_below _ _)).below k9
          replace T3 := (T3.below (alloc_below _ _)).below k9
          replace hB := step_below (step_below hB (alloc_below _ _)) k9
          clear k9 t8 T1
          go_wp2_with fail
          refine (lookup_tag (T2.below (alloc_below _ _)) hLB).mono ?_
          rintro e w11 ⟨rfl, k10⟩
          have A := (two_new w10 (.string A0) (.string A1) 34).below k10
          replace T3 := (T3.below (alloc_below _ _)).below k10
          replace T4 := (T4.below (alloc_below _ _)).below k10
          replace hB := step_below (step_below hB (alloc_below _ _)) k10
          clear k10 T2
          go_wp2_with fail
          refine (lookup_tag (T3.below (alloc_below _ _)) hLC).mono ?_
          rintro e w12 ⟨rfl, k11⟩
          have B := (two_new w11 (.string B0) (.string B1) 34).below k11
          replace A := (A.below (alloc_below _ _)).below k11
          replace T4 := (T4.below (alloc_below _ _)).below k11
          replace hB := step_below (step_below hB (alloc_below _ _)) k11
          clear k11 T3
          go_wp2_with fail
          refine (lookup_tag (T4.below (alloc_below _ _)) hLX).mono ?_
          rintro e w13 ⟨rfl, k12⟩
          have C := (two_new w12 (.string C0) (.string C1) 34).below k12
          replace A := (A.below (alloc_below _ _)).below k12
          replace B := (B.below (alloc_below _ _)).below k12
          replace hB := step_below (step_below hB (alloc_below _ _)) k12
          clear k12 T4 hLA hLB hLC hLX
          obtain ⟨ca0, ca1⟩ := A
          obtain ⟨cb0, cb1⟩ := B
          obtain ⟨cc0, cc1⟩ := C
          have za := World.block_lt_of_cell? _ _ ca0
          have zb := World.block_lt_of_cell? _ _ cb0
          have zc := World.block_lt_of_cell? _ _ cc0
          dsimp only at za zb zc
          have za1 : w10.heap.size < w13.heap.size + 1 := by omega
          have za2 : w10.heap.size < w13.heap.size + 1 + 1 := by omega
          have zb1 : w11.heap.size < w13.heap.size + 1 := by omega
          have zb2 : w11.heap.size < w13.heap.size + 1 + 1 := by omega
          have zc1 : w12.heap.size < w13.heap.size + 1 := by omega
          have zc2 : w12.heap.size < w13.heap.size + 1 + 1 := by omega
          have hcase := HC.out
          clear HC
          rcases hcase with ⟨rfl, rfl, rfl, rfl, rfl, rfl⟩ | ⟨rfl, rfl, rfl, rfl, rfl, rfl, rfl⟩ | ⟨rfl, rfl, rfl, rfl, rfl, rfl, rfl⟩
          all_goals go_wp2
          all_goals go_ret
          all_goals exact ⟨rfl, step_below (step_below (step_below hB (alloc_below _ _)) (alloc_below _ _)) (alloc_below _ _)⟩
end Go.Proofs.Qxb6609009a

import Derived.Test.Qxb6609049aResC
namespace Go.Proofs.Qxb6609049a
open Go.RowKit Go.Conc

/-- a walk in a frame that is entered by a plain call -/
def WpN (c : Code) (Q : Act → World → Prop) (a : Act) (w : World) : Prop :=
  ∀ (b : Frame) (k : List Item) (cs : List Frame), b.kind = .normal → ∃ a' w', Q a' w' ∧ Steps Try.prog (lone (b.at a (.code c :: k)) cs w) (lone (b.at a' k) cs w')

theorem wpN_seq {x y : Code} {Q : Act → World → Prop} {a : Act} {w : World} (h : x.wp Try.prog (Exit.then (WpN y Q) (fun _ _ _ => False)) a w) : WpN (x.seq y) Q a w := by
  intro b k cs hb
  obtain ⟨e, a₁, w₁, hq, harr⟩ := h b (.code y :: k) cs
  cases e with
  | normal =>
    obtain ⟨a₂, w₂, hq₂, harr₂⟩ := hq b k cs hb
    exact ⟨a₂, w₂, hq₂, (Steps.head step_seq harr).trans harr₂⟩
  | exit id => exact hq.elim
  | goto l => exact hq.elim
  | ret => exact hq.elim
  | panic ch => exact hq.elim
  | outgrown => exact hq.elim

theorem calls_of_wpN {f : FuncId} {fn : Func} {c : Code} {args : Array Value} {w : World} {R : Ending → World → Prop} (hf : Try.prog.funcs[f]? = some fn) (hb : fn.body = some c)
    (h : WpN c (fun a w => a.defers = [] ∧ ∃ v, (results fn a.tmps).run Try.prog w = .ok v w ∧ R (.returned v) w) { tmps := args ++ Array.replicate (fn.ntmps - args.size) undef, defers := [] } w) :
    Calls Try.prog f args w R := by
  intro cs
  let b : Frame := { (default : Frame) with fn := f, kind := .normal }
  have henter : Frame.enter Try.prog f args .normal = b.at { tmps := args ++ Array.replicate (fn.ntmps - args.size) undef, defers := [] } [.code c] := by
    simp [Frame.enter, Frame.at, hf, hb, b]
  obtain ⟨a', w', ⟨hd, v, hr, hR⟩, harr⟩ := h b [] cs rfl
  rw [← henter] at harr
  exact ⟨.returned v, w', _, hR, Steps.trans harr (.one step_end), rfl, rfl, hd, rfl, fn, hf, hr⟩

/-- the last region: 'w.wake <- struct{}{}' with room in the buffer -/
theorem wpN_of_lone {c : Code} {Q : Act → World → Prop} {a : Act} {w : World} (h : ∀ (b : Frame) (k : List Item) (cs : List Frame), b.kind = .normal → LoneTo Try.prog (fun g' w' => ∃ a', g' = G (b.at a' k) cs ∧ Q a' w') (G (b.at a (.code c :: k)) cs) w) : WpN c Q a w := by
  intro b k cs hb
  obtain ⟨g', w', hs, a', rfl, hq⟩ := h b k cs hb
  exact ⟨a', w', hq, hs⟩

/-! behind a send: the channel's block alone has turned -/
section
variable {w : World} {c cap s' r' : Nat} {buf' : Array Value} {cl tm : Bool}
theorem heap_chan_other {k : Nat} (h : ¬ k = c) : (w.setChan c cap buf' cl s' r' tm).heap[k]? = w.heap[k]? := by
  simp only [World.setChan]
  rw [Array.getElem?_setIfInBounds_ne (fun e => h e.symm)]
theorem cell_chan {b o : Nat} (h : ¬ b = c) : (w.setChan c cap buf' cl s' r' tm).cell? ⟨b, o, none⟩ = w.cell? ⟨b, o, none⟩ := World.cell?_of_block (a := ⟨b, o, none⟩) (heap_chan_other h)
theorem frozen_chan {b o : Nat} (h : ¬ b = c) : (w.setChan c cap buf' cl s' r' tm).frozen? ⟨b, o, none⟩ = w.frozen? ⟨b, o, none⟩ := World.frozen?_of_block (a := ⟨b, o, none⟩) (heap_chan_other h)
theorem Sched.chan {b : Nat} {r s t : Int} (h : Sched w b r s t) (hne : ¬ b = c) : Sched (w.setChan c cap buf' cl s' r' tm) b r s t :=
  ⟨⟨(cell_chan hne).trans h.1.1, (frozen_chan hne).trans h.1.2⟩, ⟨(cell_chan hne).trans h.2.1.1, (frozen_chan hne).trans h.2.1.2⟩, ⟨(cell_chan hne).trans h.2.2.1, (frozen_chan hne).trans h.2.2.2⟩⟩
theorem Task.chan {bs bw bt : Nat} {pv : Option Addr} {buf v : Array Value} {n m : Nat} (h : Task w bs c bw bt pv buf n) (h1 : ¬ bt = c) (h2 : ¬ bw = c) : Task (w.setChan c 1 v false m 0 false) bs c bw bt pv v m := by
  obtain ⟨a1, a2, ⟨a3, a4⟩, a5, a6, a7⟩ := h
  exact ⟨(cell_chan h1).trans a1, (cell_chan h1).trans a2, ⟨(cell_chan h2).trans a3, (frozen_chan h2).trans a4⟩, (cell_chan h2).trans a5, (cell_chan h2).trans a6, heap_setChan w c 1 v false m 0 false (Array.getElem?_eq_some_iff.1 a7).1⟩
end

set_option maxRecDepth 100000 in
set_option maxHeartbeats 1000000 in
theorem resume_any (B bs bc bw bt : Nat) (q : Option Addr) (r s t : Int) (w : World) (hS : Sched w bs r s t) (hT : Task w bs bc bw bt none #[] 0)
    (hB : B ≤ bs) (h1 : bs < bc) (h2 : bc < bw) (h3 : bw < bt) :
    Calls Try.prog 22 #[.pointer (some ⟨bs, 0, none⟩), .pointer (some ⟨bt, 0, none⟩), .pointer q] w fun e w' => e = .returned (.tuple #[]) ∧ Sched w' bs (wrap64 (r + 1)) (wrap64 (s + -1)) t ∧ Task w' bs bc bw bt q #[.agg #[]] 1 ∧ Below B w w' := by
  have hS1 := hS.set15 (wrap64 (s + -1))
  have hT1 := hT.other (b' := bs) (o' := 15) (v := .int .i64 (wrap64 (s + -1))) (by omega) (by omega) (by omega)
  have hS2 := hS1.set7 (wrap64 (r + 1))
  have hT2 := hT1.other (b' := bs) (o' := 7) (v := .int .i64 (wrap64 (r + 1))) (by omega) (by omega) (by omega)
  have hS3 := hS2.other (b' := bw) (o' := 0) (v := .pointer q) (by omega)
  have hT3 := hT2.setP q (by omega) (by omega)
  have HS := hidden hS3
  have HT := hidden hT3
  have HG1 := hidden hS.2.1
  have HG2 := hidden hS1.1
  obtain ⟨a1, a2, ⟨a3, a4⟩, a5, a6, a7⟩ := hT
  obtain ⟨c1, c2, c3, c4, c5, c6⟩ := hT1
  obtain ⟨d1, d2, ⟨d3, d3'⟩, d4, d5, d6⟩ := hT2
  obtain ⟨e1, e2, e3, e4, e5, e6⟩ := hT3
  clear hS hS1 hS2 hS3 a1 a3 a4 a5 a7 c1 c3 c4 c6 d1 d4 d6 e1 e2 e3 e5
  refine calls_of_wpN Try.func22 rfl ?_
  simp only [Try.ntmps22, List.size_toArray, List.length_cons, List.length_nil, Nat.reduceAdd, Nat.reduceSub, Array.replicate_succ, Array.replicate_zero, List.push_toArray, List.append_toArray, List.nil_append, List.cons_append]
  refine wpN_seq ?_
  go_wp2
  refine wpN_seq ?_
  go_wp2_with fail
  refine (add_any bs 15 s (-1) w HG1.out.1 HG1.out.2).mono ?_
  rintro e w' ⟨rfl, rfl⟩
  go_wp2
  refine wpN_seq ?_
  go_wp2_with fail
  refine (add_any bs 7 r 1 _ HG2.out.1 HG2.out.2).mono ?_
  rintro e w' ⟨rfl, rfl⟩
  go_wp2
  refine wpN_seq ?_
  go_wp2
  obtain ⟨W, hW⟩ : ∃ W, W = ((w.setCell ⟨bs, 15, none⟩ (.int .i64 (wrap64 (s + -1)))).setCell ⟨bs, 7, none⟩ (.int .i64 (wrap64 (r + 1)))).setCell ⟨bw, 0, none⟩ (.pointer q) := ⟨_, rfl⟩
  rw [← hW] at e4 e6 ⊢
  have HW := hidden hW
  clear hW a2 a6 c2 c5 d2 d3 d3' d5
  refine wpN_of_lone fun b k cs hb => ?_
  have hk : b.kind ≠ .early := by rw [hb]; decide
  refine LoneTo.goes (n := 6) ?_
  s_reg
  s_in
  refine goes_oper_k rfl rfl hk (fun K hK => ?_)
  go_simp
  refine hK _ _ ⟨trivial, ?_⟩
  clear hK K
  s_in
  refine goes_oper_k rfl rfl hk (fun K hK => ?_)
  go_simp
  refine hK _ _ ⟨trivial, ?_⟩
  clear hK K
  s_in
  refine goes_oper_k rfl rfl hk (fun K hK => ?_)
  go_simp
  refine hK _ _ ⟨trivial, ?_⟩
  clear hK K
  s_in
  refine goes_oper_k rfl rfl hk (fun K hK => ?_)
  go_simp
  refine hK _ _ ⟨trivial, ?_⟩
  clear hK K
  s_in
  refine goes_oper_k rfl rfl hk (fun K hK => ?_)
  go_simp
  refine hK _ _ ⟨trivial, ?_⟩
  clear hK K
  s_stop
  refine LoneTo.step (step_lone_send_room (c := bc) (cap := 1) (buf := #[]) (s := 0) (r := 0) (tm := false) (stepG_comm (cases := #[scase bc (.agg #[]) (.tuple #[])]) (blocking := true) (shape := .send) (w' := W) rfl rfl hk (by simp [execOp, scase, Act.eval])) e6 (by simp)) ?_
  rw [Frame.finish_at]
  walk_nrm
  refine LoneTo.goes (n := 1) ?_
  s_c stepG_region_end
  s_stop
  have HB : Below B w W := by
    rw [HW.out]
    exact (((Below.refl _ _).setCell (p := ⟨bs, 15, none⟩) hB _).setCell (p := ⟨bs, 7, none⟩) hB _).setCell (p := ⟨bw, 0, none⟩) (by dsimp only; omega) _
  have hS := HS.out
  have hT := HT.out
  rw [← HW.out] at hS hT
  exact LoneTo.done ⟨_, rfl, rfl, _, results_none rfl _ _ _, rfl, hS.chan (by omega), hT.chan (by omega) (by omega), below_setChan HB (by omega) _ _ _ _ _ _⟩

set_option maxHeartbeats 1000000 in
theorem zzresume_any (B bs bc bw bt : Nat) (q : Option Addr) (r s t : Int) (w : World) (hS : Sched w bs r s t) (hT : Task w bs bc bw bt none #[] 0)
    (hB : B ≤ bs) (h1 : bs < bc) (h2 : bc < bw) (h3 : bw < bt) :
    Calls Try.prog 17 #[.pointer (some ⟨bs, 0, none⟩), .pointer (some ⟨bt, 0, none⟩), .pointer q] w fun e w' => e = .returned (.tuple #[]) ∧ Sched w' bs (wrap64 (r + 1)) (wrap64 (s + -1)) t ∧ Task w' bs bc bw bt q #[.agg #[]] 1 ∧ Below B w w' := by
  have HC := hidden (resume_any B bs bc bw bt q r s t w hS hT hB h1 h2 h3)
  clear hS hT
  go_enter Try.func17, Try.ntmps17
  go_wp2_with fail
  refine HC.out.mono ?_
  rintro e w' ⟨rfl, g1, g2, g3⟩
  go_wp2
  go_end0
  exact ⟨rfl, g1, g2, g3⟩
end Go.Proofs.Qxb6609049a

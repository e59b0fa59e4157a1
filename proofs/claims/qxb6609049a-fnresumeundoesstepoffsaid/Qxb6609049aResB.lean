import Derived.Test.Qxb6609049aResA
import Derived.Test.Qxb6609049aResP
import Derived.Conc.LoneCalls
import Derived.Conc.LoneSelectN
namespace Go.Proofs.Qxb6609049a
open Go.RowKit Go.Conc

theorem info42 : ∃ i, Try.prog.info? 42 = some i ∧ i.bytes = 0 := by
  have h : (Try.prog.info? 42).map (·.bytes) = some 0 := by kernel_rfl
  obtain ⟨i, hi, hb⟩ := Option.map_eq_some_iff.1 h
  exact ⟨i, hi, hb⟩
theorem mkChan (w : World) : (Instr.makeChan 54 (.int .i64 1)).run Try.prog w = .ok (.chan (some w.heap.size)) (w.alloc (.chan 1 #[] false 0 0 false)) := by
  obtain ⟨i, hi, hb⟩ := info42
  simpa using run_makeChan (P := Try.prog) (w := w) Try.underlying54 hi .i64 1 (by omega) (by rw [hb]; omega)

/-- a task in memory: its block bt, its worker's block bw, its scheduler's block bs; the worker holds the processor pv; the wake channel in block bc holds the values buf -/
def Task (w : World) (bs bc bw bt : Nat) (pv : Option Addr) (buf : Array Value) (n : Nat) : Prop :=
  w.cell? ⟨bt, 0, none⟩ = some (.pointer (some ⟨bs, 0, none⟩)) ∧ w.cell? ⟨bt, 4, none⟩ = some (.pointer (some ⟨bw, 0, none⟩)) ∧
  (w.cell? ⟨bw, 0, none⟩ = some (.pointer pv) ∧ w.frozen? ⟨bw, 0, none⟩ = false) ∧ w.cell? ⟨bw, 1, none⟩ = some (.chan (some bc)) ∧ w.cell? ⟨bw, 3, none⟩ = some (.bool false) ∧
  w.heap[bc]? = some (.chan 1 buf false n 0 false)

set_option maxHeartbeats 1000000 in
theorem newTask_any (bs : Nat) (i : Int) (p : Option Addr) (w : World) :
    Calls Try.prog 13 #[.pointer (some ⟨bs, 0, none⟩), .int .u64 i, .pointer p, .bool false] w fun e w' => e = .returned (.pointer (some ⟨w.heap.size + 1 + 1, 0, none⟩)) ∧
      Task w' bs w.heap.size (w.heap.size + 1) (w.heap.size + 1 + 1) p #[] 0 ∧ w.heap.size + 1 + 1 < w'.heap.size ∧ Below w.heap.size w w' := by
  have hmc := mkChan
  go_enter Try.func13, Try.ntmps13
  go_wp2
  go_ret
  refine ⟨rfl, ⟨?_, ?_, ⟨?_, ?_⟩, ?_, ?_, ?_⟩, ?_, ?_⟩
  · rw [World.cell?_alloc_at _ _ _ _ (by simp)]; rfl
  · rw [World.cell?_alloc_at _ _ _ _ (by simp)]; rfl
  · rw [World.cell?_alloc_past _ _ _ (by simp), World.cell?_alloc_at _ _ _ _ (by simp)]; rfl
  · rw [World.frozen?_alloc_past _ _ _ (by simp), World.frozen?_alloc_at _ _ _ _ (by simp)]
  · rw [World.cell?_alloc_past _ _ _ (by simp), World.cell?_alloc_at _ _ _ _ (by simp)]; rfl
  · rw [World.cell?_alloc_past _ _ _ (by simp), World.cell?_alloc_at _ _ _ _ (by simp)]; rfl
  · rw [Below.heap_alloc _ _ _ (by simp; omega), Below.heap_alloc _ _ _ (by simp)]; exact heap_alloc_new _ _
  · simp
  · exact (((Below.refl _ _).alloc (Nat.le_refl _) _).alloc (by simp) _).alloc (by simp; omega) _

/-! what a store elsewhere keeps -/
theorem ICell.other {w : World} {b o b' o' : Nat} {x : Int} {v : Value} (h : ICell w b o x) (hne : ¬ (b' = b ∧ o' = o)) : ICell (w.setCell ⟨b', o', none⟩ v) b o x := by
  refine ⟨(World.cell?_setCell_other _ _ _ _ fun e => hne ?_).trans h.1, by rw [World.frozen?_setCell]; exact h.2⟩
  exact ⟨congrArg Addr.block e, congrArg Addr.off e⟩
theorem ICell.same {w : World} {b o : Nat} {x : Int} (y : Int) (h : ICell w b o x) : ICell (w.setCell ⟨b, o, none⟩ (.int .i64 y)) b o y :=
  ⟨World.cell?_setCell_same' _ _ _ (by rw [h.1]; rfl), by rw [World.frozen?_setCell]; exact h.2⟩
theorem Sched.other {w : World} {b b' o' : Nat} {r s t : Int} {v : Value} (h : Sched w b r s t) (hne : ¬ b' = b) : Sched (w.setCell ⟨b', o', none⟩ v) b r s t :=
  ⟨h.1.other fun e => hne e.1, h.2.1.other fun e => hne e.1, h.2.2.other fun e => hne e.1⟩
theorem Sched.set7 {w : World} {b : Nat} {r s t : Int} (y : Int) (h : Sched w b r s t) : Sched (w.setCell ⟨b, 7, none⟩ (.int .i64 y)) b y s t :=
  ⟨h.1.same y, h.2.1.other (by omega), h.2.2.other (by omega)⟩
theorem Sched.set15 {w : World} {b : Nat} {r s t : Int} (y : Int) (h : Sched w b r s t) : Sched (w.setCell ⟨b, 15, none⟩ (.int .i64 y)) b r y t :=
  ⟨h.1.other (by omega), h.2.1.same y, h.2.2.other (by omega)⟩
theorem cell_other {w : World} {b o b' o' : Nat} {x v : Value} (h : w.cell? ⟨b, o, none⟩ = some x) (hne : ¬ (b' = b ∧ o' = o)) : (w.setCell ⟨b', o', none⟩ v).cell? ⟨b, o, none⟩ = some x :=
  (World.cell?_setCell_other _ _ _ _ fun e => hne ⟨congrArg Addr.block e, congrArg Addr.off e⟩).trans h
theorem Task.other {w : World} {bs bc bw bt b' o' : Nat} {pv : Option Addr} {buf : Array Value} {n : Nat} {v : Value} (h : Task w bs bc bw bt pv buf n) (h1 : ¬ b' = bt) (h2 : ¬ b' = bw) (h3 : ¬ b' = bc) : Task (w.setCell ⟨b', o', none⟩ v) bs bc bw bt pv buf n := by
  obtain ⟨a1, a2, ⟨a3, a4⟩, a5, a6, a7⟩ := h
  exact ⟨cell_other a1 (by omega), cell_other a2 (by omega), ⟨cell_other a3 (by omega), by rw [World.frozen?_setCell]; exact a4⟩, cell_other a5 (by omega), cell_other a6 (by omega), (Below.heap_setCell _ _ _ _ (fun e => h3 e.symm)).trans a7⟩
theorem Task.setP {w : World} {bs bc bw bt : Nat} {pv : Option Addr} {buf : Array Value} {n : Nat} (q : Option Addr) (h : Task w bs bc bw bt pv buf n) (h1 : ¬ bw = bt) (h3 : ¬ bw = bc) : Task (w.setCell ⟨bw, 0, none⟩ (.pointer q)) bs bc bw bt q buf n := by
  obtain ⟨a1, a2, ⟨a3, a4⟩, a5, a6, a7⟩ := h
  exact ⟨cell_other a1 (by omega), cell_other a2 (by omega), ⟨World.cell?_setCell_same' _ _ _ (by rw [a3]; rfl), by rw [World.frozen?_setCell]; exact a4⟩, cell_other a5 (by omega), cell_other a6 (by omega), (Below.heap_setCell _ _ _ _ (fun e => h3 e.symm)).trans a7⟩

set_option maxHeartbeats 1000000 in
theorem stepOff_any (B bs bc bw bt : Nat) (pv : Option Addr) (buf : Array Value) (n : Nat) (r s t : Int) (w : World) (hS : Sched w bs r s t) (hT : Task w bs bc bw bt pv buf n)
    (hB : B ≤ bs) (h1 : bs < bc) (h2 : bc < bw) (h3 : bw < bt) :
    Calls Try.prog 21 #[.pointer (some ⟨bt, 0, none⟩)] w fun e w' => e = .returned (.tuple #[]) ∧ Sched w' bs (wrap64 (r + -1)) (wrap64 (s + 1)) t ∧ Task w' bs bc bw bt none buf n ∧ Below B w w' := by
  have hS1 := hS.other (b' := bw) (o' := 0) (v := .pointer none) (by omega)
  have hT1 := hT.setP none (by omega) (by omega)
  have hT2 := hT1.other (b' := bs) (o' := 7) (v := .int .i64 (wrap64 (r + -1))) (by omega) (by omega) (by omega)
  have hS2 := hS1.set7 (wrap64 (r + -1))
  have hS3 := hS2.set15 (wrap64 (s + 1))
  have hT3 := hT2.other (b' := bs) (o' := 15) (v := .int .i64 (wrap64 (s + 1))) (by omega) (by omega) (by omega)
  obtain ⟨a1, a2, ⟨a3, a4⟩, a5, a6, a7⟩ := hT
  obtain ⟨c1, c2, c3, c4, c5, c6⟩ := hT1
  obtain ⟨d1, d2, d3, d4, d5, d6⟩ := hT2
  have g1 := hS1.1
  have g2 := hS2.2.1
  have HS := hidden hS3
  have HT := hidden hT3
  have HG1 := hidden g1
  have HG2 := hidden g2
  clear hS1 hS2 hS3 hT3 g1 g2 hS c2 c3 c4 c5 c6 d2 d3 d4 d5 d6 a5 a6 a7
  go_enter Try.func21, Try.ntmps21
  go_wp2_with fail
  refine (add_any bs 7 r (-1) _ HG1.out.1 HG1.out.2).mono ?_
  rintro e w' ⟨rfl, rfl⟩
  go_wp2_with fail
  refine (add_any bs 15 s 1 _ HG2.out.1 HG2.out.2).mono ?_
  rintro e w' ⟨rfl, rfl⟩
  go_wp2
  go_end0
  exact ⟨rfl, HS.out, HT.out, (((Below.refl _ _).setCell (p := ⟨bw, 0, none⟩) (by dsimp only; omega) _).setCell (p := ⟨bs, 7, none⟩) hB _).setCell (p := ⟨bs, 15, none⟩) hB _⟩
end Go.Proofs.Qxb6609049a

import Derived.Test.Qxb6609049aResB
import Derived.Deep.RegionWith
namespace Go.Proofs.Qxb6609049a
open Go.RowKit Go.Conc

set_option maxHeartbeats 1000000 in
theorem zzstepOff_any (B bs bc bw bt : Nat) (pv : Option Addr) (buf : Array Value) (n : Nat) (r s t : Int) (w : World) (hS : Sched w bs r s t) (hT : Task w bs bc bw bt pv buf n)
    (hB : B ≤ bs) (h1 : bs < bc) (h2 : bc < bw) (h3 : bw < bt) :
    Calls Try.prog 14 #[.pointer (some ⟨bt, 0, none⟩)] w fun e w' => e = .returned (.tuple #[]) ∧ Sched w' bs (wrap64 (r + -1)) (wrap64 (s + 1)) t ∧ Task w' bs bc bw bt none buf n ∧ Below B w w' := by
  have HC := hidden (stepOff_any B bs bc bw bt pv buf n r s t w hS hT hB h1 h2 h3)
  clear hS hT
  go_enter Try.func14, Try.ntmps14
  go_wp2_with fail
  refine HC.out.mono ?_
  rintro e w' ⟨rfl, g1, g2, g3⟩
  go_wp2
  go_end0
  exact ⟨rfl, g1, g2, g3⟩

set_option maxHeartbeats 1000000 in
theorem counts_any (bs : Nat) (r s t : Int) (w : World) (hS : Sched w bs r s t) :
    Calls Try.prog 15 #[.pointer (some ⟨bs, 0, none⟩)] w fun e w' => e = .returned (.tuple #[.int .i64 r, .int .i64 s, .int .i64 t]) ∧ ∃ n, w' = w.drewN n := by
  obtain ⟨⟨a1, _⟩, ⟨a2, _⟩, ⟨a3, _⟩⟩ := hS
  go_enter Try.func15, Try.ntmps15
  go_wp2
  go_quiet (first | (go_at_call_of 20 (Value.pointer (some ⟨bs, 7, none⟩)); exact Calls.quiet_of_same (load_any bs 7 r _ a1)) | (go_at_call_of 20 (Value.pointer (some ⟨bs, 15, none⟩)); exact Calls.quiet_of_same (load_any bs 15 s _ a2)) | (go_at_call_of 20 (Value.pointer (some ⟨bs, 17, none⟩)); exact Calls.quiet_of_same (load_any bs 17 t _ a3)))
  go_wp2
  go_ret3
  exact ⟨rfl, nq, rfl⟩

set_option maxHeartbeats 1000000 in
theorem state_any (bs bc bw bt : Nat) (pv : Option Addr) (buf : Array Value) (n : Nat) (w : World) (hT : Task w bs bc bw bt pv buf n) :
    Calls Try.prog 16 #[.pointer (some ⟨bt, 0, none⟩)] w fun e w' => e = .returned (.tuple #[.pointer pv, .bool false, .int .i64 buf.size]) ∧ ∃ n, w' = w.drewN n := by
  obtain ⟨a1, a2, ⟨a3, a4⟩, a5, a6, a7⟩ := hT
  have hlen := fun ty m => run_len_chan (P := Try.prog) (w := w.drewN m) 54 ty Try.underlying54 a7
  clear a1 a4 a7
  go_enter Try.func16, Try.ntmps16
  go_wp2
  go_quiet (fail)
  go_wp2
  go_ret3
  exact ⟨rfl, nq, rfl⟩
end Go.Proofs.Qxb6609049a

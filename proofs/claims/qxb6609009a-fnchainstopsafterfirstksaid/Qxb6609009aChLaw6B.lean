import Derived.Test.Qxb6609009aChLaw6
namespace Go.Proofs.Qxb6609009a
open Go.RowKit

set_option maxRecDepth 100000 in
set_option maxHeartbeats 1000000 in
theorem law6_early (a0 : Option Addr) (n0 c0 : Nat) (kk : Int) (ss : List ByteArray) (h0 : ss.length = n0) (b0 : n0 ≤ maxLen) (hc : 4096 < n0) (w : World) (l0 : StrRow w a0 ss) :
    Calls Try.prog 6 #[.slice a0 n0 c0, .int .i64 kk] w fun e w' => e = .returned (.bool true) ∧ Below w.heap.size w w' := by
  have d0 : decide ((4096 : Int) < (n0 : Int)) = true := decide_eq_true (by omega)
  have HB := hidden (bytes16_any a0 n0 c0 kk ss h0 b0 w l0)
  clear b0
  go_enter Try.func6, Try.ntmps6
  go_wp2_with fail
  refine HB.out.mono ?_
  rintro e w' ⟨⟨b, rfl⟩, hw⟩
  obtain rfl : w = w' := hw.symm
  clear hw HB
  cases b with
  | false =>
    go_wp2
    go_ret
    exact ⟨rfl, Below.refl _ _⟩
  | true =>
    go_wp2
    go_ret
    exact ⟨rfl, Below.refl _ _⟩

theorem law6_walk (a0 : Option Addr) (n0 c0 : Nat) (kk : Int) (ss : List ByteArray) (h0 : ss.length = n0) (b0 : n0 ≤ maxLen) (w : World) (l0 : StrRow w a0 ss) :
    Calls Try.prog 6 #[.slice a0 n0 c0, .int .i64 kk] w fun e w' => e = .returned (.bool true) ∧ Below w.heap.size w w' := by
  by_cases hc : 4096 < n0
  · exact law6_early a0 n0 c0 kk ss h0 b0 hc w l0
  · exact law6_core a0 n0 c0 kk ss h0 (by omega) w l0
end Go.Proofs.Qxb6609009a

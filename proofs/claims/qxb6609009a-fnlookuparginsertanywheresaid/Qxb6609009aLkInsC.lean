import Derived.Test.Qxb6609009aLkInsB
namespace Go.Proofs.Qxb6609009a
open Go.RowKit

set_option maxRecDepth 100000 in
set_option maxHeartbeats 1000000 in
theorem law4_early (a0 : Option Addr) (n0 c0 : Nat) (p : Int) (x0 x1 nm : ByteArray) (xs : List (ByteArray × ByteArray)) (h0 : xs.length = n0)
    (b0 : n0 ≤ maxLen) (hc : 4096 < n0 ∨ 65536 < x0.size ∨ 65536 < x1.size ∨ 65536 < nm.size) (w : World) (l0 : Lies w a0 xs) :
    Calls Try.prog 4 #[.slice a0 n0 c0, .int .i64 p, .string x0, .string x1, .string nm] w fun e w' => e = .returned (.bool true) ∧ Below w.heap.size w w' := by
  have HB := hid_intro (bytes11_any a0 n0 c0 p x0 x1 nm xs h0 b0 w l0)
  have HC := hid_intro hc
  clear hc b0
  go_enter Try.func4, Try.ntmps4
  go_wp2_with fail
  refine HB.out.mono ?_
  rintro e w' ⟨⟨b, rfl⟩, hw⟩
  obtain rfl : w = w' := hw.symm
  clear hw HB l0
  cases b with
  | false =>
    go_wp2
    go_ret
    exact ⟨rfl, Below.refl _ _⟩
  | true =>
  by_cases d0 : 4096 < n0
  · have d0' : decide ((4096 : Int) < (n0 : Int)) = true := decide_eq_true (by omega)
    go_wp2
    go_ret
    exact ⟨rfl, Below.refl _ _⟩
  have d0' : decide ((4096 : Int) < (n0 : Int)) = false := decide_eq_false (by omega)
  by_cases d1 : 65536 < x0.size
  · have d1' : decide ((65536 : Int) < (x0.size : Int)) = true := decide_eq_true (by omega)
    go_wp2
    go_ret
    exact ⟨rfl, Below.refl _ _⟩
  have d1' : decide ((65536 : Int) < (x0.size : Int)) = false := decide_eq_false (by omega)
  by_cases d2 : 65536 < x1.size
  · have d2' : decide ((65536 : Int) < (x1.size : Int)) = true := decide_eq_true (by omega)
    go_wp2
    go_ret
    exact ⟨rfl, Below.refl _ _⟩
  have d2' : decide ((65536 : Int) < (x1.size : Int)) = false := decide_eq_false (by omega)
  have d3 : 65536 < nm.size := by have := HC.out; omega
  have d3' : decide ((65536 : Int) < (nm.size : Int)) = true := decide_eq_true (by omega)
  go_wp2
  go_ret
  exact ⟨rfl, Below.refl _ _⟩

theorem law4_walk (a0 : Option Addr) (n0 c0 : Nat) (p : Int) (x0 x1 nm : ByteArray) (xs : List (ByteArray × ByteArray)) (h0 : xs.length = n0) (hnc : n0 ≤ c0)
    (b0 : n0 ≤ maxLen) (w : World) (l0 : Lies w a0 xs) :
    Calls Try.prog 4 #[.slice a0 n0 c0, .int .i64 p, .string x0, .string x1, .string nm] w fun e w' => e = .returned (.bool true) ∧ Below w.heap.size w w' := by
  by_cases hc : 4096 < n0 ∨ 65536 < x0.size ∨ 65536 < x1.size ∨ 65536 < nm.size
  · exact law4_early a0 n0 c0 p x0 x1 nm xs h0 b0 hc w l0
  · exact law4_core a0 n0 c0 p x0 x1 nm xs h0 hnc (by omega) (by omega) (by omega) (by omega) w l0
end Go.Proofs.Qxb6609009a

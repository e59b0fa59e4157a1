import Derived.Test.Qxb6609009aLkLawA
namespace Go.Proofs.Qxb6609009a
open Go.RowKit

set_option maxRecDepth 100000 in
set_option maxHeartbeats 1000000 in
theorem law3_early (a0 a1 : Option Addr) (n0 n1 c0 c1 : Nat) (nm v : ByteArray) (xs ys : List (ByteArray × ByteArray)) (h0 : xs.length = n0) (h1 : ys.length = n1)
    (b0 : n0 ≤ maxLen) (b1 : n1 ≤ maxLen) (hc : 4096 < n0 ∨ 4096 < n1 ∨ 65536 < nm.size ∨ 65536 < v.size) (w : World) (l0 : Lies w a0 xs) (l1 : Lies w a1 ys) :
    Calls Try.prog 3 #[.slice a0 n0 c0, .slice a1 n1 c1, .string nm, .string v] w fun e w' => e = .returned (.bool true) ∧ Below w.heap.size w w' := by
  have hB7 := bytes7_any a0 a1 n0 n1 c0 c1 nm v xs ys h0 h1 b0 b1 w l0 l1
  have HB := hid_intro hB7
  have HC := hid_intro hc
  clear hB7 hc b0 b1
  go_enter Try.func3, Try.ntmps3
  go_wp2_with fail
  refine HB.out.mono ?_
  rintro e w' ⟨⟨b, rfl⟩, hw⟩
  obtain rfl : w = w' := hw.symm
  clear hw HB l0 l1
  cases b with
  | false =>
    go_wp2
    go_ret
    exact ⟨rfl, Below.refl _ _⟩
  | true =>
  by_cases d0 : 4096 < n0
  · have d0' : decide ((4096 : Int) < (n0 : Int)) = true := decide_eq_true (by omega)
    go_wp2
    go_ret
    exact ⟨rfl, Below.refl _ _⟩
  have d0' : decide ((4096 : Int) < (n0 : Int)) = false := decide_eq_false (by omega)
  by_cases d1 : 4096 < n1
  · have d1' : decide ((4096 : Int) < (n1 : Int)) = true := decide_eq_true (by omega)
    go_wp2
    go_ret
    exact ⟨rfl, Below.refl _ _⟩
  have d1' : decide ((4096 : Int) < (n1 : Int)) = false := decide_eq_false (by omega)
  by_cases d2 : 65536 < nm.size
  · have d2' : decide ((65536 : Int) < (nm.size : Int)) = true := decide_eq_true (by omega)
    go_wp2
    go_ret
    exact ⟨rfl, Below.refl _ _⟩
  have d2' : decide ((65536 : Int) < (nm.size : Int)) = false := decide_eq_false (by omega)
  have d3 : 65536 < v.size := by have := HC.out; omega
  have d3' : decide ((65536 : Int) < (v.size : Int)) = true := decide_eq_true (by omega)
  go_wp2
  go_ret
  exact ⟨rfl, Below.refl _ _⟩

theorem law3_walk (a0 a1 : Option Addr) (n0 n1 c0 c1 : Nat) (nm v : ByteArray) (xs ys : List (ByteArray × ByteArray)) (h0 : xs.length = n0) (h1 : ys.length = n1)
    (b0 : n0 ≤ maxLen) (b1 : n1 ≤ maxLen) (w : World) (l0 : Lies w a0 xs) (l1 : Lies w a1 ys) :
    Calls Try.prog 3 #[.slice a0 n0 c0, .slice a1 n1 c1, .string nm, .string v] w fun e w' => e = .returned (.bool true) ∧ Below w.heap.size w w' := by
  by_cases hc : 4096 < n0 ∨ 4096 < n1 ∨ 65536 < nm.size ∨ 65536 < v.size
  · exact law3_early a0 a1 n0 n1 c0 c1 nm v xs ys h0 h1 b0 b1 hc w l0 l1
  · exact law3_core a0 a1 n0 n1 c0 c1 nm v xs ys h0 h1 (by omega) (by omega) (by omega) (by omega) w l0 l1
end Go.Proofs.Qxb6609009a

import Derived.Test.Qxb6609009aLkBase
namespace Go.Proofs.Qxb6609009a
open Go.RowKit

def IsBool (e : Ending) : Prop := ∃ b, e = .returned (.bool b)

set_option maxHeartbeats 1000000 in
theorem bytes7_any (a0 a1 : Option Addr) (n0 n1 c0 c1 : Nat) (nm v : ByteArray) (xs ys : List (ByteArray × ByteArray)) (h0 : xs.length = n0) (h1 : ys.length = n1)
    (b0 : n0 ≤ maxLen) (b1 : n1 ≤ maxLen) (w : World) (l0 : Lies w a0 xs) (l1 : Lies w a1 ys) :
    Calls Try.prog 7 #[.slice a0 n0 c0, .slice a1 n1 c1, .string nm, .string v] w fun e w' => IsBool e ∧ w' = w := by
  unfold maxLen at b0 b1
  go_enter Try.func7, Try.ntmps7
  go_wp2
  · go_ret; exact ⟨⟨_, rfl⟩, rfl⟩
  go_loop [9, 10] (fun t i => ∃ (k : Nat) (q : Int), k ≤ n0 ∧ i = .int .i64 k ∧ t = .int .i64 q) (fun _ i => n0 - (intOf i).toNat)
  case atStart => exact ⟨0, _, Nat.zero_le _, rfl, rfl⟩
  case round =>
    obtain ⟨k, q, hk, rfl, rfl⟩ := hrel
    by_cases hlt : k < n0
    · obtain ⟨⟨s0, s1⟩, hp⟩ : ∃ p, xs[k]? = some p := ⟨xs[k], by simp [h0, hlt]⟩
      obtain ⟨b, off, hao, hbs, e0, e1⟩ := l0 k _ hp
      clear hp hbs
      subst hao
      go_wp2
      case roundEnd =>
        go_round
        case rel => exact ⟨k + 1, _, by omega, by go_num, rfl⟩
        case measure => simp [intOf]; omega
      all_goals (go_ret; exact ⟨⟨_, rfl⟩, rfl⟩)
    · go_wp2
      · go_ret; exact ⟨⟨_, rfl⟩, rfl⟩
      · go_ret; exact ⟨⟨_, rfl⟩, rfl⟩
      go_loop [9, 11] (fun t i => ∃ (k : Nat) (q : Int), k ≤ n1 ∧ i = .int .i64 k ∧ t = .int .i64 q) (fun _ i => n1 - (intOf i).toNat)
      case atStart => exact ⟨0, _, Nat.zero_le _, rfl, rfl⟩
      case round =>
        obtain ⟨k, q, hk, rfl, rfl⟩ := hrel
        by_cases hlt : k < n1
        · obtain ⟨⟨s0, s1⟩, hp⟩ : ∃ p, ys[k]? = some p := ⟨ys[k], by simp [h1, hlt]⟩
          obtain ⟨b, off, hao, hbs, e0, e1⟩ := l1 k _ hp
          clear hp hbs
          subst hao
          go_wp2
          case roundEnd =>
            go_round
            case rel => exact ⟨k + 1, _, by omega, by go_num, rfl⟩
            case measure => simp [intOf]; omega
          all_goals (go_ret; exact ⟨⟨_, rfl⟩, rfl⟩)
        · go_wp2
          all_goals (go_ret; exact ⟨⟨_, rfl⟩, rfl⟩)

set_option maxHeartbeats 1000000 in
theorem bytes11_any (a0 : Option Addr) (n0 c0 : Nat) (p : Int) (x0 x1 nm : ByteArray) (xs : List (ByteArray × ByteArray)) (h0 : xs.length = n0)
    (b0 : n0 ≤ maxLen) (w : World) (l0 : Lies w a0 xs) :
    Calls Try.prog 11 #[.slice a0 n0 c0, .int .i64 p, .string x0, .string x1, .string nm] w fun e w' => IsBool e ∧ w' = w := by
  unfold maxLen at b0
  go_enter Try.func11, Try.ntmps11
  go_wp2
  · go_ret; exact ⟨⟨_, rfl⟩, rfl⟩
  go_loop [11, 12] (fun t i => ∃ (k : Nat) (q : Int), k ≤ n0 ∧ i = .int .i64 k ∧ t = .int .i64 q) (fun _ i => n0 - (intOf i).toNat)
  case atStart => exact ⟨0, _, Nat.zero_le _, rfl, rfl⟩
  case round =>
    obtain ⟨k, q, hk, rfl, rfl⟩ := hrel
    by_cases hlt : k < n0
    · obtain ⟨⟨s0, s1⟩, hp⟩ : ∃ p, xs[k]? = some p := ⟨xs[k], by simp [h0, hlt]⟩
      obtain ⟨b, off, hao, hbs, e0, e1⟩ := l0 k _ hp
      clear hp hbs
      subst hao
      go_wp2
      case roundEnd =>
        go_round
        case rel => exact ⟨k + 1, _, by omega, by go_num, rfl⟩
        case measure => simp [intOf]; omega
      all_goals (go_ret; exact ⟨⟨_, rfl⟩, rfl⟩)
    · go_wp2
      all_goals (go_ret; exact ⟨⟨_, rfl⟩, rfl⟩)
end Go.Proofs.Qxb6609009a

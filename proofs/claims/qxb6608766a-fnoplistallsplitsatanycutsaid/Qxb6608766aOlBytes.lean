import Derived.Test.Qxb6608766aOlBase
namespace Go.Proofs.Qxb6608766a
open Go.RowKit

/-- what zzBytes says: some bool; where it is true no row is longer than 2 to the 20 -/
def Bound (e : Ending) (ms : List (List Int)) : Prop := ∃ b : Bool, e = .returned (.bool b) ∧ (b = true → ∀ (k : Nat) (r : List Int), ms[k]? = some r → r.length ≤ 1048576)

set_option maxHeartbeats 1000000 in
theorem bytes6_any (a0 : Option Addr) (n0 c0 : Nat) (kk : Int) (ms : List (List Int)) (h0 : ms.length = n0) (b0 : n0 ≤ maxLen) (w : World) (l0 : Mat w a0 ms) (hb : ∀ (k : Nat) (r : List Int), ms[k]? = some r → r.length ≤ maxLen) :
    Calls Try.prog 6 #[.slice a0 n0 c0, .int .i64 kk] w fun e w' => Bound e ms ∧ w' = w := by
  unfold maxLen at b0 hb
  have hno : ∀ ms, Bound (.returned (.bool false)) ms := fun ms => ⟨false, rfl, fun h => (nomatch h)⟩
  go_enter Try.func6, Try.ntmps6
  go_wp2
  · go_ret; exact ⟨hno _, rfl⟩
  go_loop [5, 6] (fun t i => ∃ (k : Nat) (q : Int), k ≤ n0 ∧ i = .int .i64 k ∧ t = .int .i64 q ∧ Hid (∀ (t : Nat) (r : List Int), t < k → ms[t]? = some r → r.length ≤ 1048576)) (fun _ i => n0 - (intOf i).toNat)
  case atStart => exact ⟨0, _, Nat.zero_le _, rfl, rfl, hidden fun t r ht => by omega⟩
  case round =>
    obtain ⟨k, q, hk, rfl, rfl, hH⟩ := hrel
    by_cases hlt : k < n0
    · obtain ⟨r, hp⟩ : ∃ p, ms[k]? = some p := ⟨ms[k], by simp [h0, hlt]⟩
      obtain ⟨b, off, A, c, hao, hbs, e0, _⟩ := l0 k _ hp
      have hrl := hb k r hp
      replace hp := hidden hp
      clear hbs hb
      subst hao
      by_cases hsm : r.length ≤ 1048576
      · go_wp2
        case roundEnd =>
          go_round
          case rel =>
            refine ⟨k + 1, _, by omega, by go_num, rfl, hidden fun t r' ht hr' => ?_⟩
            by_cases e : t = k
            · subst e
              rw [hp.out] at hr'
              obtain rfl := Option.some.inj hr'
              exact hsm
            · exact hH.out t r' (by omega) hr'
          case measure => simp [intOf]; omega
        all_goals (go_ret; exact ⟨hno _, rfl⟩)
      · go_wp2
        all_goals (go_ret; exact ⟨hno _, rfl⟩)
    · clear hb
      go_wp2
      go_ret
      exact ⟨⟨true, rfl, fun _ t r hr => hH.out t r (by have := (List.getElem?_eq_some_iff.1 hr).1; omega) hr⟩, rfl⟩
end Go.Proofs.Qxb6608766a

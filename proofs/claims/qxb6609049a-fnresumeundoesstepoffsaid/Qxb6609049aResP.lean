import Derived.Test.Qxb6609049aRaiseBase
namespace Go.Proofs.Qxb6609049a
open Go.RowKit

def aggSize : Value → Nat
  | .agg cs => cs.size
  | _ => 0

theorem zero101 : ∃ Z : Array Value, Z.size = 265 ∧ ∀ w, (zeroValue 101).run Try.prog w = .ok (.agg Z) w := by
  have h : ((Try.prog.info? 101).bind fun i => i.zero.map aggSize) = some 265 := by kernel_rfl
  cases hi : Try.prog.info? 101 with
  | none => rw [hi] at h; cases h
  | some i =>
    rw [hi] at h
    cases hz : i.zero with
    | none => simp [hz] at h
    | some v =>
      simp only [hz, Option.bind_some, Option.map_some, Option.some.injEq] at h
      cases v with
      | agg cs => exact ⟨cs, h, fun w => by simp [zeroValue, typeInfo, hi, hz]⟩
      | _ => simp [aggSize] at h

set_option maxRecDepth 100000 in
set_option maxHeartbeats 2000000 in
theorem newProc_any (bs : Nat) (i : Int) (w : World) :
    Calls Try.prog 12 #[.pointer (some ⟨bs, 0, none⟩), .int .i64 i] w fun e w' => e = .returned (.pointer (some ⟨w.heap.size, 0, none⟩)) ∧ Below w.heap.size w w' ∧ w.heap.size < w'.heap.size := by
  obtain ⟨Z, hsz, hz⟩ := zero101
  have h0 : ¬ Z = #[] := by intro e; rw [e] at hsz; cases hsz
  have h1 : ¬ Z.size < 2 := by omega
  have h2 : ¬ Z.size < 265 := by omega
  clear hsz
  go_enter Try.func12, Try.ntmps12
  go_wp2
  go_ret
  exact ⟨rfl, (Below.refl _ _).alloc (Nat.le_refl _) _, by simp⟩
end Go.Proofs.Qxb6609049a

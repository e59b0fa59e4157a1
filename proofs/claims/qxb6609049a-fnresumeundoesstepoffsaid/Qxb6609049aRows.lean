/-
  No cell of these rows narrows 'for every input' (looked for: loops, veiled, ifaces, maps, wideKeys, modest, calm, conditions, laid).
  DERIVED. THE GIVEN ROWS OF THIS SEAT. 3 by the template 'for every input the law returns true; each argument reads behind the call as it read before'; 0 by the template 'total and deterministic' (their statements: Qxb6609049aTotals.lean).
  GIVEN WITH THE SEED: the statements are not yours to turn. If you find one false, say at which input.
  Laid BY PROGRAM, IN A SANDBOX (cutbox-rows.mjs): the forced cells as the released guide's own fill.sh prints them over the translation 46856778d2e10393… (all of the seat's roots in one cut). By AI agents, Wed Nov 11 2026. No macro, syntax, notation, axiom, sorry.
-/
import Derived.Test.Qxb6609049aChecked
import GoSem.Claim
import GoSem.ClaimJoined
import GoSem.ClaimMapViews
import Derived.JoinedTies
import Derived.KernelRfl
namespace Go.Proofs.Qxb6609049a
/- THE CELL 'sum', in the pinned program and in every row, IS THE sha256 OF THE DUMP (.gsa) THAT Qxb6609049aProg.lean LOADS. Nothing in Lean hashes anything: it is a label: what it is worth is what the hold of that sum in a sandbox is worth. -/
noncomputable def Try.pinned : Pinned := { name := "qxb6609049a", sum := "46856778d2e10393d9da428a3ed258d68508ac1bdb573ae9b9088fa16310ee7a", checked := Try.checked }
namespace Rows
def none {H : Type} : Left H := { results := [], args := [] }

/-- 'zzlaws_root_b1.FnRaiseTracksRunningMaximum': WHATEVER THE INPUT: true; the input reads as it did. -/
def fnRaiseTracksRunningMaximumSpec : ChangeSpec := { name := "fnRaiseTracksRunningMaximum", fn := fun _ => fun
  | [d1, d2] => { results := [.lit (.bool true)], args := [d1, d2] }
  | _ => none }
def fnRaiseTracksRunningMaximumRow : OpenClaim := { program := "qxb6609049a", sum := "46856778d2e10393d9da428a3ed258d68508ac1bdb573ae9b9088fa16310ee7a", func := "example.com/pocket-scheduler/pocket-scheduler/zzlaws_root_b1.FnRaiseTracksRunningMaximum", spec := "fnRaiseTracksRunningMaximum", inPlace := ["sync/atomic.StoreInt64", "sync/atomic.LoadInt64", "sync/atomic.CompareAndSwapInt64"], apart := false }
def FnRaiseTracksRunningMaximumSaid : Prop := fnRaiseTracksRunningMaximumRow.holds Try.pinned (OpenSpec.ofChange fnRaiseTracksRunningMaximumSpec)

/-- ITS FALSE NEIGHBOUR: 'it returns false'. Refute it at one input. -/
def fnRaiseTracksRunningMaximumWrong : ChangeSpec := { name := "fnRaiseTracksRunningMaximum", fn := fun _ => fun
  | [d1, d2] => { results := [.lit (.bool false)], args := [d1, d2] }
  | _ => none }
def FnRaiseTracksRunningMaximumWrongFalsely : Prop := fnRaiseTracksRunningMaximumRow.holds Try.pinned (OpenSpec.ofChange fnRaiseTracksRunningMaximumWrong)

/-- 'zzlaws_root_b1.FnRaiseIsOrderFreeMaximum': WHATEVER THE INPUT: true; the input reads as it did. -/
def fnRaiseIsOrderFreeMaximumSpec : ChangeSpec := { name := "fnRaiseIsOrderFreeMaximum", fn := fun _ => fun
  | [d1, d2] => { results := [.lit (.bool true)], args := [d1, d2] }
  | _ => none }
def fnRaiseIsOrderFreeMaximumRow : OpenClaim := { program := "qxb6609049a", sum := "46856778d2e10393d9da428a3ed258d68508ac1bdb573ae9b9088fa16310ee7a", func := "example.com/pocket-scheduler/pocket-scheduler/zzlaws_root_b1.FnRaiseIsOrderFreeMaximum", spec := "fnRaiseIsOrderFreeMaximum", inPlace := ["sync/atomic.StoreInt64", "sync/atomic.LoadInt64", "sync/atomic.CompareAndSwapInt64"], apart := false }
def FnRaiseIsOrderFreeMaximumSaid : Prop := fnRaiseIsOrderFreeMaximumRow.holds Try.pinned (OpenSpec.ofChange fnRaiseIsOrderFreeMaximumSpec)

/-- ITS FALSE NEIGHBOUR: 'it returns false'. Refute it at one input. -/
def fnRaiseIsOrderFreeMaximumWrong : ChangeSpec := { name := "fnRaiseIsOrderFreeMaximum", fn := fun _ => fun
  | [d1, d2] => { results := [.lit (.bool false)], args := [d1, d2] }
  | _ => none }
def FnRaiseIsOrderFreeMaximumWrongFalsely : Prop := fnRaiseIsOrderFreeMaximumRow.holds Try.pinned (OpenSpec.ofChange fnRaiseIsOrderFreeMaximumWrong)

/-- 'zzlaws_root_b1.FnResumeUndoesStepOff': WHATEVER THE INPUT: true; the input reads as it did. -/
def fnResumeUndoesStepOffSpec : ChangeSpec := { name := "fnResumeUndoesStepOff", fn := fun _ => fun
  | [d1, d2, d3] => { results := [.lit (.bool true)], args := [d1, d2, d3] }
  | _ => none }
def fnResumeUndoesStepOffRow : OpenClaim := { program := "qxb6609049a", sum := "46856778d2e10393d9da428a3ed258d68508ac1bdb573ae9b9088fa16310ee7a", func := "example.com/pocket-scheduler/pocket-scheduler/zzlaws_root_b1.FnResumeUndoesStepOff", spec := "fnResumeUndoesStepOff", inPlace := ["sync/atomic.StoreInt64", "sync/atomic.AddInt64", "sync/atomic.LoadInt64"], apart := false }
def FnResumeUndoesStepOffSaid : Prop := fnResumeUndoesStepOffRow.holds Try.pinned (OpenSpec.ofChange fnResumeUndoesStepOffSpec)

/-- ITS FALSE NEIGHBOUR: 'it returns false'. Refute it at one input. -/
def fnResumeUndoesStepOffWrong : ChangeSpec := { name := "fnResumeUndoesStepOff", fn := fun _ => fun
  | [d1, d2, d3] => { results := [.lit (.bool false)], args := [d1, d2, d3] }
  | _ => none }
def FnResumeUndoesStepOffWrongFalsely : Prop := fnResumeUndoesStepOffRow.holds Try.pinned (OpenSpec.ofChange fnResumeUndoesStepOffWrong)

end Rows
end Go.Proofs.Qxb6609049a

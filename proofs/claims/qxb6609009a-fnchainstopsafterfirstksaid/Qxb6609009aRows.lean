/-
  No cell of these rows narrows 'for every input' (looked for: loops, veiled, ifaces, maps, wideKeys, modest, calm, conditions, laid).
  DERIVED. THE GIVEN ROWS OF THIS SEAT. 4 by the template 'for every input the law returns true; each argument reads behind the call as it read before'; 0 by the template 'total and deterministic' (their statements: Qxb6609009aTotals.lean).
  GIVEN WITH THE SEED: the statements are not yours to turn. If you find one false, say at which input.
  Laid BY PROGRAM, IN A SANDBOX (cutbox-rows.mjs): the forced cells as the released guide's own fill.sh prints them over the translation 3864a381b2f92146… (all of the seat's roots in one cut). By AI agents, Wed Nov 11 2026. No macro, syntax, notation, axiom, sorry.
-/
import Derived.Test.Qxb6609009aChecked
import GoSem.Claim
import GoSem.ClaimJoined
import GoSem.ClaimMapViews
import Derived.JoinedTies
import Derived.KernelRfl
namespace Go.Proofs.Qxb6609009a
/- THE CELL 'sum', in the pinned program and in every row, IS THE sha256 OF THE DUMP (.gsa) THAT Qxb6609009aProg.lean LOADS. Nothing in Lean hashes anything: it is a label: what it is worth is what the hold of that sum in a sandbox is worth. -/
noncomputable def Try.pinned : Pinned := { name := "qxb6609009a", sum := "3864a381b2f9214653731d611a18d9c47600bd618840f2ddfd753caae783db7d", checked := Try.checked }
namespace Rows
def none {H : Type} : Left H := { results := [], args := [] }

/-- 'zzlaws_pkg_tag_b1.FnLookupArgOfJoinedLists': WHATEVER THE INPUT: true; the input reads as it did. -/
def fnLookupArgOfJoinedListsSpec : ChangeSpec := { name := "fnLookupArgOfJoinedLists", fn := fun _ => fun
  | [d1, d2, d3, d4] => { results := [.lit (.bool true)], args := [d1, d2, d3, d4] }
  | _ => none }
def fnLookupArgOfJoinedListsRow : OpenClaim := { program := "qxb6609009a", sum := "3864a381b2f9214653731d611a18d9c47600bd618840f2ddfd753caae783db7d", func := "example.com/taglint/taglint/zzlaws_pkg_tag_b1.FnLookupArgOfJoinedLists", spec := "fnLookupArgOfJoinedLists", apart := false }
def FnLookupArgOfJoinedListsSaid : Prop := fnLookupArgOfJoinedListsRow.holds Try.pinned (OpenSpec.ofChange fnLookupArgOfJoinedListsSpec)

/-- ITS FALSE NEIGHBOUR: 'it returns false'. Refute it at one input. -/
def fnLookupArgOfJoinedListsWrong : ChangeSpec := { name := "fnLookupArgOfJoinedLists", fn := fun _ => fun
  | [d1, d2, d3, d4] => { results := [.lit (.bool false)], args := [d1, d2, d3, d4] }
  | _ => none }
def FnLookupArgOfJoinedListsWrongFalsely : Prop := fnLookupArgOfJoinedListsRow.holds Try.pinned (OpenSpec.ofChange fnLookupArgOfJoinedListsWrong)

/-- 'zzlaws_pkg_tag_b1.FnLookupArgInsertAnywhere': WHATEVER THE INPUT: true; the input reads as it did. -/
def fnLookupArgInsertAnywhereSpec : ChangeSpec := { name := "fnLookupArgInsertAnywhere", fn := fun _ => fun
  | [d1, d2, d3, d4, d5] => { results := [.lit (.bool true)], args := [d1, d2, d3, d4, d5] }
  | _ => none }
def fnLookupArgInsertAnywhereRow : OpenClaim := { program := "qxb6609009a", sum := "3864a381b2f9214653731d611a18d9c47600bd618840f2ddfd753caae783db7d", func := "example.com/taglint/taglint/zzlaws_pkg_tag_b1.FnLookupArgInsertAnywhere", spec := "fnLookupArgInsertAnywhere", apart := false }
def FnLookupArgInsertAnywhereSaid : Prop := fnLookupArgInsertAnywhereRow.holds Try.pinned (OpenSpec.ofChange fnLookupArgInsertAnywhereSpec)

/-- ITS FALSE NEIGHBOUR: 'it returns false'. Refute it at one input. -/
def fnLookupArgInsertAnywhereWrong : ChangeSpec := { name := "fnLookupArgInsertAnywhere", fn := fun _ => fun
  | [d1, d2, d3, d4, d5] => { results := [.lit (.bool false)], args := [d1, d2, d3, d4, d5] }
  | _ => none }
def FnLookupArgInsertAnywhereWrongFalsely : Prop := fnLookupArgInsertAnywhereRow.holds Try.pinned (OpenSpec.ofChange fnLookupArgInsertAnywhereWrong)

/-- 'zzlaws_pkg_tag_b1.FnChainListsEveryLinkInOrder': WHATEVER THE INPUT: true; the input reads as it did. -/
def fnChainListsEveryLinkInOrderSpec : ChangeSpec := { name := "fnChainListsEveryLinkInOrder", fn := fun _ => fun
  | [d] => { results := [.lit (.bool true)], args := [d] }
  | _ => none }
def fnChainListsEveryLinkInOrderRow : OpenClaim := { program := "qxb6609009a", sum := "3864a381b2f9214653731d611a18d9c47600bd618840f2ddfd753caae783db7d", func := "example.com/taglint/taglint/zzlaws_pkg_tag_b1.FnChainListsEveryLinkInOrder", spec := "fnChainListsEveryLinkInOrder", unfollowed := true, recurses := true, apart := false }
def FnChainListsEveryLinkInOrderSaid : Prop := fnChainListsEveryLinkInOrderRow.holds Try.pinned (OpenSpec.ofChange fnChainListsEveryLinkInOrderSpec)

/-- ITS FALSE NEIGHBOUR: 'it returns false'. Refute it at one input. -/
def fnChainListsEveryLinkInOrderWrong : ChangeSpec := { name := "fnChainListsEveryLinkInOrder", fn := fun _ => fun
  | [d] => { results := [.lit (.bool false)], args := [d] }
  | _ => none }
def FnChainListsEveryLinkInOrderWrongFalsely : Prop := fnChainListsEveryLinkInOrderRow.holds Try.pinned (OpenSpec.ofChange fnChainListsEveryLinkInOrderWrong)

/-- 'zzlaws_pkg_tag_b1.FnChainStopsAfterFirstK': WHATEVER THE INPUT: true; the input reads as it did. -/
def fnChainStopsAfterFirstKSpec : ChangeSpec := { name := "fnChainStopsAfterFirstK", fn := fun _ => fun
  | [d1, d2] => { results := [.lit (.bool true)], args := [d1, d2] }
  | _ => none }
def fnChainStopsAfterFirstKRow : OpenClaim := { program := "qxb6609009a", sum := "3864a381b2f9214653731d611a18d9c47600bd618840f2ddfd753caae783db7d", func := "example.com/taglint/taglint/zzlaws_pkg_tag_b1.FnChainStopsAfterFirstK", spec := "fnChainStopsAfterFirstK", unfollowed := true, recurses := true, apart := false }
def FnChainStopsAfterFirstKSaid : Prop := fnChainStopsAfterFirstKRow.holds Try.pinned (OpenSpec.ofChange fnChainStopsAfterFirstKSpec)

/-- ITS FALSE NEIGHBOUR: 'it returns false'. Refute it at one input. -/
def fnChainStopsAfterFirstKWrong : ChangeSpec := { name := "fnChainStopsAfterFirstK", fn := fun _ => fun
  | [d1, d2] => { results := [.lit (.bool false)], args := [d1, d2] }
  | _ => none }
def FnChainStopsAfterFirstKWrongFalsely : Prop := fnChainStopsAfterFirstKRow.holds Try.pinned (OpenSpec.ofChange fnChainStopsAfterFirstKWrong)

end Rows
end Go.Proofs.Qxb6609009a

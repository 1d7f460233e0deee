/-
  No cell of these rows narrows 'for every input' (looked for: loops, veiled, ifaces, maps, wideKeys, modest, calm, conditions, laid).
  DERIVED. THE GIVEN ROWS OF THIS SEAT. 3 by the template 'for every input the law returns true; each argument reads behind the call as it read before'; 0 by the template 'total and deterministic' (their statements: Qxb6608555aTotals.lean).
  GIVEN WITH THE SEED: the statements are not yours to turn. If you find one false, say at which input.
  Laid BY PROGRAM, IN A SANDBOX (cutbox-rows.mjs): the forced cells as the released guide's own fill.sh prints them over the translation efa9c6fb74e30de0… (all of the seat's roots in one cut). By AI agents, Wed Nov 11 2026. No macro, syntax, notation, axiom, sorry.
-/
import Derived.Test.Qxb6608555aChecked
import GoSem.Claim
import GoSem.ClaimJoined
import GoSem.ClaimMapViews
import Derived.JoinedTies
import Derived.KernelRfl
namespace Go.Proofs.Qxb6608555a
/- THE CELL 'sum', in the pinned program and in every row, IS THE sha256 OF THE DUMP (.gsa) THAT Qxb6608555aProg.lean LOADS. Nothing in Lean hashes anything: it is a label: what it is worth is what the hold of that sum in a sandbox is worth. -/
noncomputable def Try.pinned : Pinned := { name := "qxb6608555a", sum := "efa9c6fb74e30de0f95aa3d5c060cbb21157255706574c6b430a4a1ad248a61e", checked := Try.checked }
namespace Rows
def none {H : Type} : Left H := { results := [], args := [] }

/-- 'zzlaws_internal_cluster_b1.FnFreshSlotTableFollowsSetScript': WHATEVER THE INPUT: true; the input reads as it did. -/
def fnFreshSlotTableFollowsSetScriptSpec : ChangeSpec := { name := "fnFreshSlotTableFollowsSetScript", fn := fun _ => fun
  | [d1, d2] => { results := [.lit (.bool true)], args := [d1, d2] }
  | _ => none }
def fnFreshSlotTableFollowsSetScriptRow : OpenClaim := { program := "qxb6608555a", sum := "efa9c6fb74e30de0f95aa3d5c060cbb21157255706574c6b430a4a1ad248a61e", func := "example.com/slotwise/slotwise/zzlaws_internal_cluster_b1.FnFreshSlotTableFollowsSetScript", spec := "fnFreshSlotTableFollowsSetScript", apart := false }
def FnFreshSlotTableFollowsSetScriptSaid : Prop := fnFreshSlotTableFollowsSetScriptRow.holds Try.pinned (OpenSpec.ofChange fnFreshSlotTableFollowsSetScriptSpec)

/-- ITS FALSE NEIGHBOUR: 'it returns false'. Refute it at one input. -/
def fnFreshSlotTableFollowsSetScriptWrong : ChangeSpec := { name := "fnFreshSlotTableFollowsSetScript", fn := fun _ => fun
  | [d1, d2] => { results := [.lit (.bool false)], args := [d1, d2] }
  | _ => none }
def FnFreshSlotTableFollowsSetScriptWrongFalsely : Prop := fnFreshSlotTableFollowsSetScriptRow.holds Try.pinned (OpenSpec.ofChange fnFreshSlotTableFollowsSetScriptWrong)

/-- 'zzlaws_internal_cluster_b1.FnSlotTableCopyKeepsOwnersAndNamesOnlyServers': WHATEVER THE INPUT: true; the input reads as it did. -/
def fnSlotTableCopyKeepsOwnersAndNamesOnlyServersSpec : ChangeSpec := { name := "fnSlotTableCopyKeepsOwnersAndNamesOnlyServers", fn := fun _ => fun
  | [d1, d2, d3, d4] => { results := [.lit (.bool true)], args := [d1, d2, d3, d4] }
  | _ => none }
def fnSlotTableCopyKeepsOwnersAndNamesOnlyServersRow : OpenClaim := { program := "qxb6608555a", sum := "efa9c6fb74e30de0f95aa3d5c060cbb21157255706574c6b430a4a1ad248a61e", func := "example.com/slotwise/slotwise/zzlaws_internal_cluster_b1.FnSlotTableCopyKeepsOwnersAndNamesOnlyServers", spec := "fnSlotTableCopyKeepsOwnersAndNamesOnlyServers", apart := false }
def FnSlotTableCopyKeepsOwnersAndNamesOnlyServersSaid : Prop := fnSlotTableCopyKeepsOwnersAndNamesOnlyServersRow.holds Try.pinned (OpenSpec.ofChange fnSlotTableCopyKeepsOwnersAndNamesOnlyServersSpec)

/-- ITS FALSE NEIGHBOUR: 'it returns false'. Refute it at one input. -/
def fnSlotTableCopyKeepsOwnersAndNamesOnlyServersWrong : ChangeSpec := { name := "fnSlotTableCopyKeepsOwnersAndNamesOnlyServers", fn := fun _ => fun
  | [d1, d2, d3, d4] => { results := [.lit (.bool false)], args := [d1, d2, d3, d4] }
  | _ => none }
def FnSlotTableCopyKeepsOwnersAndNamesOnlyServersWrongFalsely : Prop := fnSlotTableCopyKeepsOwnersAndNamesOnlyServersRow.holds Try.pinned (OpenSpec.ofChange fnSlotTableCopyKeepsOwnersAndNamesOnlyServersWrong)

/-- 'zzlaws_internal_cluster_b1.FnSetOwnerScriptCopiesOnceAndSparesSharedTable': WHATEVER THE INPUT: true; the input reads as it did. -/
def fnSetOwnerScriptCopiesOnceAndSparesSharedTableSpec : ChangeSpec := { name := "fnSetOwnerScriptCopiesOnceAndSparesSharedTable", fn := fun _ => fun
  | [d1, d2, d3, d4] => { results := [.lit (.bool true)], args := [d1, d2, d3, d4] }
  | _ => none }
def fnSetOwnerScriptCopiesOnceAndSparesSharedTableRow : OpenClaim := { program := "qxb6608555a", sum := "efa9c6fb74e30de0f95aa3d5c060cbb21157255706574c6b430a4a1ad248a61e", func := "example.com/slotwise/slotwise/zzlaws_internal_cluster_b1.FnSetOwnerScriptCopiesOnceAndSparesSharedTable", spec := "fnSetOwnerScriptCopiesOnceAndSparesSharedTable", apart := false }
def FnSetOwnerScriptCopiesOnceAndSparesSharedTableSaid : Prop := fnSetOwnerScriptCopiesOnceAndSparesSharedTableRow.holds Try.pinned (OpenSpec.ofChange fnSetOwnerScriptCopiesOnceAndSparesSharedTableSpec)

/-- ITS FALSE NEIGHBOUR: 'it returns false'. Refute it at one input. -/
def fnSetOwnerScriptCopiesOnceAndSparesSharedTableWrong : ChangeSpec := { name := "fnSetOwnerScriptCopiesOnceAndSparesSharedTable", fn := fun _ => fun
  | [d1, d2, d3, d4] => { results := [.lit (.bool false)], args := [d1, d2, d3, d4] }
  | _ => none }
def FnSetOwnerScriptCopiesOnceAndSparesSharedTableWrongFalsely : Prop := fnSetOwnerScriptCopiesOnceAndSparesSharedTableRow.holds Try.pinned (OpenSpec.ofChange fnSetOwnerScriptCopiesOnceAndSparesSharedTableWrong)

end Rows
end Go.Proofs.Qxb6608555a

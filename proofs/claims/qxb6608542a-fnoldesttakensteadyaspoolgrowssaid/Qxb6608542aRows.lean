/-
  No cell of these rows narrows 'for every input' (looked for: loops, veiled, ifaces, maps, wideKeys, modest, calm, conditions, laid).
  DERIVED. THE GIVEN ROWS OF THIS SEAT. 2 by the template 'for every input the law returns true; each argument reads behind the call as it read before'; 0 by the template 'total and deterministic' (their statements: Qxb6608542aTotals.lean).
  GIVEN WITH THE SEED: the statements are not yours to turn. If you find one false, say at which input.
  Laid BY PROGRAM, IN A SANDBOX (cutbox-rows.mjs): the forced cells as the released guide's own fill.sh prints them over the translation 8ff3bb271bc29388… (all of the seat's roots in one cut). By AI agents, Wed Nov 11 2026. No macro, syntax, notation, axiom, sorry.
-/
import Derived.Test.Qxb6608542aChecked
import GoSem.Claim
import GoSem.ClaimJoined
import GoSem.ClaimMapViews
import Derived.JoinedTies
import Derived.KernelRfl
namespace Go.Proofs.Qxb6608542a
/- THE CELL 'sum', in the pinned program and in every row, IS THE sha256 OF THE DUMP (.gsa) THAT Qxb6608542aProg.lean LOADS. Nothing in Lean hashes anything: it is a label: what it is worth is what the hold of that sum in a sandbox is worth. -/
noncomputable def Try.pinned : Pinned := { name := "qxb6608542a", sum := "8ff3bb271bc29388c76013f5d5d21e07c2d7b60a49eadff54637b85109074581", checked := Try.checked }
namespace Rows
def none {H : Type} : Left H := { results := [], args := [] }

/-- 'zzlaws_root_b1.FnOldestTakenReadsEachStart': WHATEVER THE INPUT: true; the input reads as it did. -/
def fnOldestTakenReadsEachStartSpec : ChangeSpec := { name := "fnOldestTakenReadsEachStart", fn := fun _ => fun
  | [d] => { results := [.lit (.bool true)], args := [d] }
  | _ => none }
def fnOldestTakenReadsEachStartRow : OpenClaim := { program := "qxb6608542a", sum := "8ff3bb271bc29388c76013f5d5d21e07c2d7b60a49eadff54637b85109074581", func := "example.com/pappus/pappus/zzlaws_root_b1.FnOldestTakenReadsEachStart", spec := "fnOldestTakenReadsEachStart", apart := false }
def FnOldestTakenReadsEachStartSaid : Prop := fnOldestTakenReadsEachStartRow.holds Try.pinned (OpenSpec.ofChange fnOldestTakenReadsEachStartSpec)

/-- ITS FALSE NEIGHBOUR: 'it returns false'. Refute it at one input. -/
def fnOldestTakenReadsEachStartWrong : ChangeSpec := { name := "fnOldestTakenReadsEachStart", fn := fun _ => fun
  | [d] => { results := [.lit (.bool false)], args := [d] }
  | _ => none }
def FnOldestTakenReadsEachStartWrongFalsely : Prop := fnOldestTakenReadsEachStartRow.holds Try.pinned (OpenSpec.ofChange fnOldestTakenReadsEachStartWrong)

/-- 'zzlaws_root_b1.FnOldestTakenSteadyAsPoolGrows': WHATEVER THE INPUT: true; the input reads as it did. -/
def fnOldestTakenSteadyAsPoolGrowsSpec : ChangeSpec := { name := "fnOldestTakenSteadyAsPoolGrows", fn := fun _ => fun
  | [d1, d2, d3] => { results := [.lit (.bool true)], args := [d1, d2, d3] }
  | _ => none }
def fnOldestTakenSteadyAsPoolGrowsRow : OpenClaim := { program := "qxb6608542a", sum := "8ff3bb271bc29388c76013f5d5d21e07c2d7b60a49eadff54637b85109074581", func := "example.com/pappus/pappus/zzlaws_root_b1.FnOldestTakenSteadyAsPoolGrows", spec := "fnOldestTakenSteadyAsPoolGrows", apart := false }
def FnOldestTakenSteadyAsPoolGrowsSaid : Prop := fnOldestTakenSteadyAsPoolGrowsRow.holds Try.pinned (OpenSpec.ofChange fnOldestTakenSteadyAsPoolGrowsSpec)

/-- ITS FALSE NEIGHBOUR: 'it returns false'. Refute it at one input. -/
def fnOldestTakenSteadyAsPoolGrowsWrong : ChangeSpec := { name := "fnOldestTakenSteadyAsPoolGrows", fn := fun _ => fun
  | [d1, d2, d3] => { results := [.lit (.bool false)], args := [d1, d2, d3] }
  | _ => none }
def FnOldestTakenSteadyAsPoolGrowsWrongFalsely : Prop := fnOldestTakenSteadyAsPoolGrowsRow.holds Try.pinned (OpenSpec.ofChange fnOldestTakenSteadyAsPoolGrowsWrong)

end Rows
end Go.Proofs.Qxb6608542a

/-
  No cell of these rows narrows 'for every input' (looked for: loops, veiled, ifaces, maps, wideKeys, modest, calm, conditions, laid).
  DERIVED. THE GIVEN ROWS OF THIS SEAT. 5 by the template 'for every input the law returns true; each argument reads behind the call as it read before'; 0 by the template 'total and deterministic' (their statements: Qxb6608624aTotals.lean).
  GIVEN WITH THE SEED: the statements are not yours to turn. If you find one false, say at which input.
  Laid BY PROGRAM, IN A SANDBOX (cutbox-rows.mjs): the forced cells as the released guide's own fill.sh prints them over the translation a2381032dd307846… (all of the seat's roots in one cut). By AI agents, Wed Nov 11 2026. No macro, syntax, notation, axiom, sorry.
-/
import Derived.Test.Qxb6608624aChecked
import GoSem.Claim
import GoSem.ClaimJoined
import GoSem.ClaimMapViews
import Derived.JoinedTies
import Derived.KernelRfl
namespace Go.Proofs.Qxb6608624a
/- THE CELL 'sum', in the pinned program and in every row, IS THE sha256 OF THE DUMP (.gsa) THAT Qxb6608624aProg.lean LOADS. Nothing in Lean hashes anything: it is a label: what it is worth is what the hold of that sum in a sandbox is worth. -/
noncomputable def Try.pinned : Pinned := { name := "qxb6608624a", sum := "a2381032dd307846734ae42a644eec80ee2c5f84599e2b8baddf24780b8440e0", checked := Try.checked }
namespace Rows
def none {H : Type} : Left H := { results := [], args := [] }

/-- 'zzlaws_root_b1.FnWordEndStopsAtFirstSpaceOrBarsAndSplicesAcrossAJoin': WHATEVER THE INPUT: true; the input reads as it did. -/
def fnWordEndStopsAtFirstSpaceOrBarsAndSplicesAcrossAJoinSpec : ChangeSpec := { name := "fnWordEndStopsAtFirstSpaceOrBarsAndSplicesAcrossAJoin", fn := fun _ => fun
  | [d1, d2, d3] => { results := [.lit (.bool true)], args := [d1, d2, d3] }
  | _ => none }
def fnWordEndStopsAtFirstSpaceOrBarsAndSplicesAcrossAJoinRow : OpenClaim := { program := "qxb6608624a", sum := "a2381032dd307846734ae42a644eec80ee2c5f84599e2b8baddf24780b8440e0", func := "example.com/tercet/tercet/zzlaws_root_b1.FnWordEndStopsAtFirstSpaceOrBarsAndSplicesAcrossAJoin", spec := "fnWordEndStopsAtFirstSpaceOrBarsAndSplicesAcrossAJoin", apart := false }
def FnWordEndStopsAtFirstSpaceOrBarsAndSplicesAcrossAJoinSaid : Prop := fnWordEndStopsAtFirstSpaceOrBarsAndSplicesAcrossAJoinRow.holds Try.pinned (OpenSpec.ofChange fnWordEndStopsAtFirstSpaceOrBarsAndSplicesAcrossAJoinSpec)

/-- ITS FALSE NEIGHBOUR: 'it returns false'. Refute it at one input. -/
def fnWordEndStopsAtFirstSpaceOrBarsAndSplicesAcrossAJoinWrong : ChangeSpec := { name := "fnWordEndStopsAtFirstSpaceOrBarsAndSplicesAcrossAJoin", fn := fun _ => fun
  | [d1, d2, d3] => { results := [.lit (.bool false)], args := [d1, d2, d3] }
  | _ => none }
def FnWordEndStopsAtFirstSpaceOrBarsAndSplicesAcrossAJoinWrongFalsely : Prop := fnWordEndStopsAtFirstSpaceOrBarsAndSplicesAcrossAJoinRow.holds Try.pinned (OpenSpec.ofChange fnWordEndStopsAtFirstSpaceOrBarsAndSplicesAcrossAJoinWrong)

/-- 'zzlaws_root_b1.FnWordEndTokenizesIntoTheWordsBetweenSpacesAndBars': WHATEVER THE INPUT: true; the input reads as it did. -/
def fnWordEndTokenizesIntoTheWordsBetweenSpacesAndBarsSpec : ChangeSpec := { name := "fnWordEndTokenizesIntoTheWordsBetweenSpacesAndBars", fn := fun _ => fun
  | [d1, d2] => { results := [.lit (.bool true)], args := [d1, d2] }
  | _ => none }
def fnWordEndTokenizesIntoTheWordsBetweenSpacesAndBarsRow : OpenClaim := { program := "qxb6608624a", sum := "a2381032dd307846734ae42a644eec80ee2c5f84599e2b8baddf24780b8440e0", func := "example.com/tercet/tercet/zzlaws_root_b1.FnWordEndTokenizesIntoTheWordsBetweenSpacesAndBars", spec := "fnWordEndTokenizesIntoTheWordsBetweenSpacesAndBars", apart := false }
def FnWordEndTokenizesIntoTheWordsBetweenSpacesAndBarsSaid : Prop := fnWordEndTokenizesIntoTheWordsBetweenSpacesAndBarsRow.holds Try.pinned (OpenSpec.ofChange fnWordEndTokenizesIntoTheWordsBetweenSpacesAndBarsSpec)

/-- ITS FALSE NEIGHBOUR: 'it returns false'. Refute it at one input. -/
def fnWordEndTokenizesIntoTheWordsBetweenSpacesAndBarsWrong : ChangeSpec := { name := "fnWordEndTokenizesIntoTheWordsBetweenSpacesAndBars", fn := fun _ => fun
  | [d1, d2] => { results := [.lit (.bool false)], args := [d1, d2] }
  | _ => none }
def FnWordEndTokenizesIntoTheWordsBetweenSpacesAndBarsWrongFalsely : Prop := fnWordEndTokenizesIntoTheWordsBetweenSpacesAndBarsRow.holds Try.pinned (OpenSpec.ofChange fnWordEndTokenizesIntoTheWordsBetweenSpacesAndBarsWrong)

/-- 'zzlaws_root_b1.FnMissesResetExactlyWhenTheProperReleaseWasSkipped': WHATEVER THE INPUT: true; the input reads as it did. -/
def fnMissesResetExactlyWhenTheProperReleaseWasSkippedSpec : ChangeSpec := { name := "fnMissesResetExactlyWhenTheProperReleaseWasSkipped", fn := fun _ => fun
  | [d1, d2, d3, d4, d5, d6, d7, d8, d9, d10] => { results := [.lit (.bool true)], args := [d1, d2, d3, d4, d5, d6, d7, d8, d9, d10] }
  | _ => none }
def fnMissesResetExactlyWhenTheProperReleaseWasSkippedRow : OpenClaim := { program := "qxb6608624a", sum := "a2381032dd307846734ae42a644eec80ee2c5f84599e2b8baddf24780b8440e0", func := "example.com/tercet/tercet/zzlaws_root_b1.FnMissesResetExactlyWhenTheProperReleaseWasSkipped", spec := "fnMissesResetExactlyWhenTheProperReleaseWasSkipped", inPlace := ["internal/bytealg.abigen_runtime_cmpstring", "internal/bytealg.IndexByteString", "internal/bytealg.IndexString"], named := ["internal/bytealg.MaxLen"], apart := false }
def FnMissesResetExactlyWhenTheProperReleaseWasSkippedSaid : Prop := fnMissesResetExactlyWhenTheProperReleaseWasSkippedRow.holds Try.pinned (OpenSpec.ofChange fnMissesResetExactlyWhenTheProperReleaseWasSkippedSpec)

/-- ITS FALSE NEIGHBOUR: 'it returns false'. Refute it at one input. -/
def fnMissesResetExactlyWhenTheProperReleaseWasSkippedWrong : ChangeSpec := { name := "fnMissesResetExactlyWhenTheProperReleaseWasSkipped", fn := fun _ => fun
  | [d1, d2, d3, d4, d5, d6, d7, d8, d9, d10] => { results := [.lit (.bool false)], args := [d1, d2, d3, d4, d5, d6, d7, d8, d9, d10] }
  | _ => none }
def FnMissesResetExactlyWhenTheProperReleaseWasSkippedWrongFalsely : Prop := fnMissesResetExactlyWhenTheProperReleaseWasSkippedRow.holds Try.pinned (OpenSpec.ofChange fnMissesResetExactlyWhenTheProperReleaseWasSkippedWrong)

/-- 'zzlaws_root_b1.FnAdmitsMatchesTheRangeSemantics': WHATEVER THE INPUT: true; the input reads as it did. -/
def fnAdmitsMatchesTheRangeSemanticsSpec : ChangeSpec := { name := "fnAdmitsMatchesTheRangeSemantics", fn := fun _ => fun
  | [d1, d2, d3, d4, d5, d6, d7, d8, d9, d10] => { results := [.lit (.bool true)], args := [d1, d2, d3, d4, d5, d6, d7, d8, d9, d10] }
  | _ => none }
def fnAdmitsMatchesTheRangeSemanticsRow : OpenClaim := { program := "qxb6608624a", sum := "a2381032dd307846734ae42a644eec80ee2c5f84599e2b8baddf24780b8440e0", func := "example.com/tercet/tercet/zzlaws_root_b1.FnAdmitsMatchesTheRangeSemantics", spec := "fnAdmitsMatchesTheRangeSemantics", inPlace := ["internal/bytealg.abigen_runtime_cmpstring", "internal/bytealg.IndexByteString", "internal/bytealg.IndexString"], named := ["internal/bytealg.MaxLen"], apart := false }
def FnAdmitsMatchesTheRangeSemanticsSaid : Prop := fnAdmitsMatchesTheRangeSemanticsRow.holds Try.pinned (OpenSpec.ofChange fnAdmitsMatchesTheRangeSemanticsSpec)

/-- ITS FALSE NEIGHBOUR: 'it returns false'. Refute it at one input. -/
def fnAdmitsMatchesTheRangeSemanticsWrong : ChangeSpec := { name := "fnAdmitsMatchesTheRangeSemantics", fn := fun _ => fun
  | [d1, d2, d3, d4, d5, d6, d7, d8, d9, d10] => { results := [.lit (.bool false)], args := [d1, d2, d3, d4, d5, d6, d7, d8, d9, d10] }
  | _ => none }
def FnAdmitsMatchesTheRangeSemanticsWrongFalsely : Prop := fnAdmitsMatchesTheRangeSemanticsRow.holds Try.pinned (OpenSpec.ofChange fnAdmitsMatchesTheRangeSemanticsWrong)

/-- 'zzlaws_root_b1.FnAdmitsIsTheUnionOfItsSetsAndAdmitsWhatASetNames': WHATEVER THE INPUT: true; the input reads as it did. -/
def fnAdmitsIsTheUnionOfItsSetsAndAdmitsWhatASetNamesSpec : ChangeSpec := { name := "fnAdmitsIsTheUnionOfItsSetsAndAdmitsWhatASetNames", fn := fun _ => fun
  | [d1, d2, d3, d4, d5, d6, d7, d8, d9, d10, d11] => { results := [.lit (.bool true)], args := [d1, d2, d3, d4, d5, d6, d7, d8, d9, d10, d11] }
  | _ => none }
def fnAdmitsIsTheUnionOfItsSetsAndAdmitsWhatASetNamesRow : OpenClaim := { program := "qxb6608624a", sum := "a2381032dd307846734ae42a644eec80ee2c5f84599e2b8baddf24780b8440e0", func := "example.com/tercet/tercet/zzlaws_root_b1.FnAdmitsIsTheUnionOfItsSetsAndAdmitsWhatASetNames", spec := "fnAdmitsIsTheUnionOfItsSetsAndAdmitsWhatASetNames", inPlace := ["internal/bytealg.abigen_runtime_cmpstring", "internal/bytealg.IndexByteString", "internal/bytealg.IndexString"], named := ["internal/bytealg.MaxLen"], apart := false }
def FnAdmitsIsTheUnionOfItsSetsAndAdmitsWhatASetNamesSaid : Prop := fnAdmitsIsTheUnionOfItsSetsAndAdmitsWhatASetNamesRow.holds Try.pinned (OpenSpec.ofChange fnAdmitsIsTheUnionOfItsSetsAndAdmitsWhatASetNamesSpec)

/-- ITS FALSE NEIGHBOUR: 'it returns false'. Refute it at one input. -/
def fnAdmitsIsTheUnionOfItsSetsAndAdmitsWhatASetNamesWrong : ChangeSpec := { name := "fnAdmitsIsTheUnionOfItsSetsAndAdmitsWhatASetNames", fn := fun _ => fun
  | [d1, d2, d3, d4, d5, d6, d7, d8, d9, d10, d11] => { results := [.lit (.bool false)], args := [d1, d2, d3, d4, d5, d6, d7, d8, d9, d10, d11] }
  | _ => none }
def FnAdmitsIsTheUnionOfItsSetsAndAdmitsWhatASetNamesWrongFalsely : Prop := fnAdmitsIsTheUnionOfItsSetsAndAdmitsWhatASetNamesRow.holds Try.pinned (OpenSpec.ofChange fnAdmitsIsTheUnionOfItsSetsAndAdmitsWhatASetNamesWrong)

end Rows
end Go.Proofs.Qxb6608624a

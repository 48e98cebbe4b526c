/-
  No cell of these rows narrows 'for every input' (looked for: loops, veiled, ifaces, maps, wideKeys, modest, calm, conditions, laid).
  DERIVED. THE GIVEN ROWS OF THIS SEAT. 4 by the template 'for every input the law returns true; each argument reads behind the call as it read before'; 0 by the template 'total and deterministic' (their statements: Qxb6617078aTotals.lean).
  GIVEN WITH THE SEED: the statements are not yours to turn. If you find one false, say at which input.
  Laid BY PROGRAM, IN A SANDBOX (cutbox-rows.mjs): the forced cells as the released guide's own fill.sh prints them over the translation 5e62be99144d7e77… (all of the seat's roots in one cut). By AI agents, Wed Nov 11 2026. No macro, syntax, notation, axiom, sorry.
-/
import Derived.Test.Qxb6617078aChecked
import GoSem.Claim
import GoSem.ClaimJoined
import GoSem.ClaimMapViews
import Derived.JoinedTies
import Derived.KernelRfl
namespace Go.Proofs.Qxb6617078a
/- THE CELL 'sum', in the pinned program and in every row, IS THE sha256 OF THE DUMP (.gsa) THAT Qxb6617078aProg.lean LOADS. Nothing in Lean hashes anything: it is a label: what it is worth is what the hold of that sum in a sandbox is worth. -/
noncomputable def Try.pinned : Pinned := { name := "qxb6617078a", sum := "5e62be99144d7e77971f3798fb81c93275fd51edd0d0f3ce629aaa9844d0fa98", checked := Try.checked }
namespace Rows
def none {H : Type} : Left H := { results := [], args := [] }

/-- 'zzlaws_pkg_manifest_b1.FnInputImportsAtAnyCutIsTheSortedKeptSet': WHATEVER THE INPUT: true; the input reads as it did. -/
def fnInputImportsAtAnyCutIsTheSortedKeptSetSpec : ChangeSpec := { name := "fnInputImportsAtAnyCutIsTheSortedKeptSet", fn := fun _ => fun
  | [d1, d2, d3, d4] => { results := [.lit (.bool true)], args := [d1, d2, d3, d4] }
  | _ => none }
def fnInputImportsAtAnyCutIsTheSortedKeptSetRow : OpenClaim := { program := "qxb6617078a", sum := "5e62be99144d7e77971f3798fb81c93275fd51edd0d0f3ce629aaa9844d0fa98", func := "example.com/ormeggio/ormeggio/zzlaws_pkg_manifest_b1.FnInputImportsAtAnyCutIsTheSortedKeptSet", spec := "fnInputImportsAtAnyCutIsTheSortedKeptSet", recurses := true, plainKeys := false, apart := false }
def FnInputImportsAtAnyCutIsTheSortedKeptSetSaid : Prop := fnInputImportsAtAnyCutIsTheSortedKeptSetRow.holds Try.pinned (OpenSpec.ofChange fnInputImportsAtAnyCutIsTheSortedKeptSetSpec)

/-- ITS FALSE NEIGHBOUR: 'it returns false'. Refute it at one input. -/
def fnInputImportsAtAnyCutIsTheSortedKeptSetWrong : ChangeSpec := { name := "fnInputImportsAtAnyCutIsTheSortedKeptSet", fn := fun _ => fun
  | [d1, d2, d3, d4] => { results := [.lit (.bool false)], args := [d1, d2, d3, d4] }
  | _ => none }
def FnInputImportsAtAnyCutIsTheSortedKeptSetWrongFalsely : Prop := fnInputImportsAtAnyCutIsTheSortedKeptSetRow.holds Try.pinned (OpenSpec.ofChange fnInputImportsAtAnyCutIsTheSortedKeptSetWrong)

/-- 'zzlaws_pkg_manifest_b1.FnInputImportsIsAFixedPointThatAgreesWithIgnores': WHATEVER THE INPUT: true; the input reads as it did. -/
def fnInputImportsIsAFixedPointThatAgreesWithIgnoresSpec : ChangeSpec := { name := "fnInputImportsIsAFixedPointThatAgreesWithIgnores", fn := fun _ => fun
  | [d1, d2, d3] => { results := [.lit (.bool true)], args := [d1, d2, d3] }
  | _ => none }
def fnInputImportsIsAFixedPointThatAgreesWithIgnoresRow : OpenClaim := { program := "qxb6617078a", sum := "5e62be99144d7e77971f3798fb81c93275fd51edd0d0f3ce629aaa9844d0fa98", func := "example.com/ormeggio/ormeggio/zzlaws_pkg_manifest_b1.FnInputImportsIsAFixedPointThatAgreesWithIgnores", spec := "fnInputImportsIsAFixedPointThatAgreesWithIgnores", recurses := true, plainKeys := false, apart := false }
def FnInputImportsIsAFixedPointThatAgreesWithIgnoresSaid : Prop := fnInputImportsIsAFixedPointThatAgreesWithIgnoresRow.holds Try.pinned (OpenSpec.ofChange fnInputImportsIsAFixedPointThatAgreesWithIgnoresSpec)

/-- ITS FALSE NEIGHBOUR: 'it returns false'. Refute it at one input. -/
def fnInputImportsIsAFixedPointThatAgreesWithIgnoresWrong : ChangeSpec := { name := "fnInputImportsIsAFixedPointThatAgreesWithIgnores", fn := fun _ => fun
  | [d1, d2, d3] => { results := [.lit (.bool false)], args := [d1, d2, d3] }
  | _ => none }
def FnInputImportsIsAFixedPointThatAgreesWithIgnoresWrongFalsely : Prop := fnInputImportsIsAFixedPointThatAgreesWithIgnoresRow.holds Try.pinned (OpenSpec.ofChange fnInputImportsIsAFixedPointThatAgreesWithIgnoresWrong)

/-- 'zzlaws_pkg_manifest_b1.FnIgnoringNamesJustWhatSomeEntryNames': WHATEVER THE INPUT: true; the input reads as it did. -/
def fnIgnoringNamesJustWhatSomeEntryNamesSpec : ChangeSpec := { name := "fnIgnoringNamesJustWhatSomeEntryNames", fn := fun _ => fun
  | [d1, d2] => { results := [.lit (.bool true)], args := [d1, d2] }
  | _ => none }
def fnIgnoringNamesJustWhatSomeEntryNamesRow : OpenClaim := { program := "qxb6617078a", sum := "5e62be99144d7e77971f3798fb81c93275fd51edd0d0f3ce629aaa9844d0fa98", func := "example.com/ormeggio/ormeggio/zzlaws_pkg_manifest_b1.FnIgnoringNamesJustWhatSomeEntryNames", spec := "fnIgnoringNamesJustWhatSomeEntryNames", recurses := true, plainKeys := false, apart := false }
def FnIgnoringNamesJustWhatSomeEntryNamesSaid : Prop := fnIgnoringNamesJustWhatSomeEntryNamesRow.holds Try.pinned (OpenSpec.ofChange fnIgnoringNamesJustWhatSomeEntryNamesSpec)

/-- ITS FALSE NEIGHBOUR: 'it returns false'. Refute it at one input. -/
def fnIgnoringNamesJustWhatSomeEntryNamesWrong : ChangeSpec := { name := "fnIgnoringNamesJustWhatSomeEntryNames", fn := fun _ => fun
  | [d1, d2] => { results := [.lit (.bool false)], args := [d1, d2] }
  | _ => none }
def FnIgnoringNamesJustWhatSomeEntryNamesWrongFalsely : Prop := fnIgnoringNamesJustWhatSomeEntryNamesRow.holds Try.pinned (OpenSpec.ofChange fnIgnoringNamesJustWhatSomeEntryNamesWrong)

/-- 'zzlaws_pkg_manifest_b1.FnIgnoringOneEntryPutInAtAnyPlace': WHATEVER THE INPUT: true; the input reads as it did. -/
def fnIgnoringOneEntryPutInAtAnyPlaceSpec : ChangeSpec := { name := "fnIgnoringOneEntryPutInAtAnyPlace", fn := fun _ => fun
  | [d1, d2, d3, d4] => { results := [.lit (.bool true)], args := [d1, d2, d3, d4] }
  | _ => none }
def fnIgnoringOneEntryPutInAtAnyPlaceRow : OpenClaim := { program := "qxb6617078a", sum := "5e62be99144d7e77971f3798fb81c93275fd51edd0d0f3ce629aaa9844d0fa98", func := "example.com/ormeggio/ormeggio/zzlaws_pkg_manifest_b1.FnIgnoringOneEntryPutInAtAnyPlace", spec := "fnIgnoringOneEntryPutInAtAnyPlace", recurses := true, plainKeys := false, apart := false }
def FnIgnoringOneEntryPutInAtAnyPlaceSaid : Prop := fnIgnoringOneEntryPutInAtAnyPlaceRow.holds Try.pinned (OpenSpec.ofChange fnIgnoringOneEntryPutInAtAnyPlaceSpec)

/-- ITS FALSE NEIGHBOUR: 'it returns false'. Refute it at one input. -/
def fnIgnoringOneEntryPutInAtAnyPlaceWrong : ChangeSpec := { name := "fnIgnoringOneEntryPutInAtAnyPlace", fn := fun _ => fun
  | [d1, d2, d3, d4] => { results := [.lit (.bool false)], args := [d1, d2, d3, d4] }
  | _ => none }
def FnIgnoringOneEntryPutInAtAnyPlaceWrongFalsely : Prop := fnIgnoringOneEntryPutInAtAnyPlaceRow.holds Try.pinned (OpenSpec.ofChange fnIgnoringOneEntryPutInAtAnyPlaceWrong)

end Rows
end Go.Proofs.Qxb6617078a

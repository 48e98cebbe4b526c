/-
  No cell of these rows narrows 'for every input' (looked for: loops, veiled, ifaces, maps, wideKeys, modest, calm, conditions, laid).
  DERIVED. THE GIVEN ROWS OF THIS SEAT. 5 by the template 'for every input the law returns true; each argument reads behind the call as it read before'; 0 by the template 'total and deterministic' (their statements: Qxb6616555aTotals.lean).
  GIVEN WITH THE SEED: the statements are not yours to turn. If you find one false, say at which input.
  Laid BY PROGRAM, IN A SANDBOX (cutbox-rows.mjs): the forced cells as the released guide's own fill.sh prints them over the translation 2fe962db5d7208a1… (all of the seat's roots in one cut). By AI agents, Wed Nov 11 2026. No macro, syntax, notation, axiom, sorry.
-/
import Derived.Test.Qxb6616555aChecked
import GoSem.Claim
import GoSem.ClaimJoined
import GoSem.ClaimMapViews
import Derived.JoinedTies
import Derived.KernelRfl
namespace Go.Proofs.Qxb6616555a
/- THE CELL 'sum', in the pinned program and in every row, IS THE sha256 OF THE DUMP (.gsa) THAT Qxb6616555aProg.lean LOADS. Nothing in Lean hashes anything: it is a label: what it is worth is what the hold of that sum in a sandbox is worth. -/
noncomputable def Try.pinned : Pinned := { name := "qxb6616555a", sum := "2fe962db5d7208a19db0a88dff2a875d919a5e7cbd1d7026ad8b1d8e42b82ec2", checked := Try.checked }
namespace Rows
def none {H : Type} : Left H := { results := [], args := [] }

/-- 'zzlaws_root_b1.FnEventOfAgreesWithKey': WHATEVER THE INPUT: true; the input reads as it did. -/
def fnEventOfAgreesWithKeySpec : ChangeSpec := { name := "fnEventOfAgreesWithKey", fn := fun _ => fun
  | [d1, d2, d3, d4] => { results := [.lit (.bool true)], args := [d1, d2, d3, d4] }
  | _ => none }
def fnEventOfAgreesWithKeyRow : OpenClaim := { program := "qxb6616555a", sum := "2fe962db5d7208a19db0a88dff2a875d919a5e7cbd1d7026ad8b1d8e42b82ec2", func := "example.com/esteem/esteem/zzlaws_root_b1.FnEventOfAgreesWithKey", spec := "fnEventOfAgreesWithKey", apart := false }
def FnEventOfAgreesWithKeySaid : Prop := fnEventOfAgreesWithKeyRow.holds Try.pinned (OpenSpec.ofChange fnEventOfAgreesWithKeySpec)

/-- ITS FALSE NEIGHBOUR: 'it returns false'. Refute it at one input. -/
def fnEventOfAgreesWithKeyWrong : ChangeSpec := { name := "fnEventOfAgreesWithKey", fn := fun _ => fun
  | [d1, d2, d3, d4] => { results := [.lit (.bool false)], args := [d1, d2, d3, d4] }
  | _ => none }
def FnEventOfAgreesWithKeyWrongFalsely : Prop := fnEventOfAgreesWithKeyRow.holds Try.pinned (OpenSpec.ofChange fnEventOfAgreesWithKeyWrong)

/-- 'zzlaws_root_b1.FnEventOfTimeTruncatesTowardZero': WHATEVER THE INPUT: true; the input reads as it did. -/
def fnEventOfTimeTruncatesTowardZeroSpec : ChangeSpec := { name := "fnEventOfTimeTruncatesTowardZero", fn := fun _ => fun
  | [d1, d2, d3, d4] => { results := [.lit (.bool true)], args := [d1, d2, d3, d4] }
  | _ => none }
def fnEventOfTimeTruncatesTowardZeroRow : OpenClaim := { program := "qxb6616555a", sum := "2fe962db5d7208a19db0a88dff2a875d919a5e7cbd1d7026ad8b1d8e42b82ec2", func := "example.com/esteem/esteem/zzlaws_root_b1.FnEventOfTimeTruncatesTowardZero", spec := "fnEventOfTimeTruncatesTowardZero", apart := false }
def FnEventOfTimeTruncatesTowardZeroSaid : Prop := fnEventOfTimeTruncatesTowardZeroRow.holds Try.pinned (OpenSpec.ofChange fnEventOfTimeTruncatesTowardZeroSpec)

/-- ITS FALSE NEIGHBOUR: 'it returns false'. Refute it at one input. -/
def fnEventOfTimeTruncatesTowardZeroWrong : ChangeSpec := { name := "fnEventOfTimeTruncatesTowardZero", fn := fun _ => fun
  | [d1, d2, d3, d4] => { results := [.lit (.bool false)], args := [d1, d2, d3, d4] }
  | _ => none }
def FnEventOfTimeTruncatesTowardZeroWrongFalsely : Prop := fnEventOfTimeTruncatesTowardZeroRow.holds Try.pinned (OpenSpec.ofChange fnEventOfTimeTruncatesTowardZeroWrong)

/-- 'zzlaws_root_b1.FnPeerPlacesFirstMet': WHATEVER THE INPUT: true; the input reads as it did. -/
def fnPeerPlacesFirstMetSpec : ChangeSpec := { name := "fnPeerPlacesFirstMet", fn := fun _ => fun
  | [d] => { results := [.lit (.bool true)], args := [d] }
  | _ => none }
def fnPeerPlacesFirstMetRow : OpenClaim := { program := "qxb6616555a", sum := "2fe962db5d7208a19db0a88dff2a875d919a5e7cbd1d7026ad8b1d8e42b82ec2", func := "example.com/esteem/esteem/zzlaws_root_b1.FnPeerPlacesFirstMet", spec := "fnPeerPlacesFirstMet", apart := false }
def FnPeerPlacesFirstMetSaid : Prop := fnPeerPlacesFirstMetRow.holds Try.pinned (OpenSpec.ofChange fnPeerPlacesFirstMetSpec)

/-- ITS FALSE NEIGHBOUR: 'it returns false'. Refute it at one input. -/
def fnPeerPlacesFirstMetWrong : ChangeSpec := { name := "fnPeerPlacesFirstMet", fn := fun _ => fun
  | [d] => { results := [.lit (.bool false)], args := [d] }
  | _ => none }
def FnPeerPlacesFirstMetWrongFalsely : Prop := fnPeerPlacesFirstMetRow.holds Try.pinned (OpenSpec.ofChange fnPeerPlacesFirstMetWrong)

/-- 'zzlaws_root_b1.FnPeerRepeatStable': WHATEVER THE INPUT: true; the input reads as it did. -/
def fnPeerRepeatStableSpec : ChangeSpec := { name := "fnPeerRepeatStable", fn := fun _ => fun
  | [d1, d2] => { results := [.lit (.bool true)], args := [d1, d2] }
  | _ => none }
def fnPeerRepeatStableRow : OpenClaim := { program := "qxb6616555a", sum := "2fe962db5d7208a19db0a88dff2a875d919a5e7cbd1d7026ad8b1d8e42b82ec2", func := "example.com/esteem/esteem/zzlaws_root_b1.FnPeerRepeatStable", spec := "fnPeerRepeatStable", apart := false }
def FnPeerRepeatStableSaid : Prop := fnPeerRepeatStableRow.holds Try.pinned (OpenSpec.ofChange fnPeerRepeatStableSpec)

/-- ITS FALSE NEIGHBOUR: 'it returns false'. Refute it at one input. -/
def fnPeerRepeatStableWrong : ChangeSpec := { name := "fnPeerRepeatStable", fn := fun _ => fun
  | [d1, d2] => { results := [.lit (.bool false)], args := [d1, d2] }
  | _ => none }
def FnPeerRepeatStableWrongFalsely : Prop := fnPeerRepeatStableRow.holds Try.pinned (OpenSpec.ofChange fnPeerRepeatStableWrong)

/-- 'zzlaws_root_b1.FnTrustKeyFreshEachCall': WHATEVER THE INPUT: true; the input reads as it did. -/
def fnTrustKeyFreshEachCallSpec : ChangeSpec := { name := "fnTrustKeyFreshEachCall", fn := fun _ => fun
  | [d1, d2] => { results := [.lit (.bool true)], args := [d1, d2] }
  | _ => none }
def fnTrustKeyFreshEachCallRow : OpenClaim := { program := "qxb6616555a", sum := "2fe962db5d7208a19db0a88dff2a875d919a5e7cbd1d7026ad8b1d8e42b82ec2", func := "example.com/esteem/esteem/zzlaws_root_b1.FnTrustKeyFreshEachCall", spec := "fnTrustKeyFreshEachCall", apart := false }
def FnTrustKeyFreshEachCallSaid : Prop := fnTrustKeyFreshEachCallRow.holds Try.pinned (OpenSpec.ofChange fnTrustKeyFreshEachCallSpec)

/-- ITS FALSE NEIGHBOUR: 'it returns false'. Refute it at one input. -/
def fnTrustKeyFreshEachCallWrong : ChangeSpec := { name := "fnTrustKeyFreshEachCall", fn := fun _ => fun
  | [d1, d2] => { results := [.lit (.bool false)], args := [d1, d2] }
  | _ => none }
def FnTrustKeyFreshEachCallWrongFalsely : Prop := fnTrustKeyFreshEachCallRow.holds Try.pinned (OpenSpec.ofChange fnTrustKeyFreshEachCallWrong)

end Rows
end Go.Proofs.Qxb6616555a

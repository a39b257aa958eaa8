/-
  No cell of these rows narrows 'for every input' (looked for: loops, veiled, ifaces, maps, wideKeys, modest, calm, conditions, laid).
  DERIVED. THE GIVEN ROWS OF THIS SEAT. 8 by the template 'for every input the law returns true; each argument reads behind the call as it read before'; 0 by the template 'total and deterministic' (their statements: Qxb6600190aModsTotals.lean).
  GIVEN WITH THE SEED: the statements are not yours to turn. If you find one false, say at which input.
  Laid BY PROGRAM, IN A SANDBOX (cutbox-rows.mjs): the forced cells as the released guide's own fill.sh prints them over the translation f8a33cc8ceea3385… (all of the seat's roots in one cut). By AI agents, Wed Nov 11 2026. No macro, syntax, notation, axiom, sorry.
-/
import Derived.Test.Qxb6600190aModsChecked
import GoSem.Claim
import GoSem.ClaimJoined
import GoSem.ClaimMapViews
import Derived.JoinedTies
import Derived.KernelRfl
namespace Go.Proofs.Qxb6600190aMods
/- THE CELL 'sum', in the pinned program and in every row, IS THE sha256 OF THE DUMP (.gsa) THAT Qxb6600190aModsProg.lean LOADS. Nothing in Lean hashes anything: it is a label: what it is worth is what the hold of that sum in a sandbox is worth. -/
noncomputable def Trym.pinned : Pinned := { name := "qxb6600190amods", sum := "f8a33cc8ceea3385b259231cb5588b14afa8c8d115dbc4346611d023d108d47d", checked := Trym.checked }
namespace Rows
def none {H : Type} : Left H := { results := [], args := [] }

/-- 'zzlaws_root_b1.FnOtherSumsToOffset': WHATEVER THE INPUT: true; the input reads as it did. -/
def fnOtherSumsToOffsetSpec : ChangeSpec := { name := "fnOtherSumsToOffset", fn := fun _ => fun
  | [d1, d2, d3, d4] => { results := [.lit (.bool true)], args := [d1, d2, d3, d4] }
  | _ => none }
def fnOtherSumsToOffsetRow : OpenClaim := { program := "qxb6600190amods", sum := "f8a33cc8ceea3385b259231cb5588b14afa8c8d115dbc4346611d023d108d47d", func := "example.com/cowbird/cowbird/zzlaws_root_b1.FnOtherSumsToOffset", spec := "fnOtherSumsToOffset", make := .lifted ["publicsums"], apart := false }
def FnOtherSumsToOffsetSaid : Prop := fnOtherSumsToOffsetRow.holds Trym.pinned (OpenSpec.ofChange fnOtherSumsToOffsetSpec)

/-- ITS FALSE NEIGHBOUR: 'it returns false'. Refute it at one input. -/
def fnOtherSumsToOffsetWrong : ChangeSpec := { name := "fnOtherSumsToOffset", fn := fun _ => fun
  | [d1, d2, d3, d4] => { results := [.lit (.bool false)], args := [d1, d2, d3, d4] }
  | _ => none }
def FnOtherSumsToOffsetWrongFalsely : Prop := fnOtherSumsToOffsetRow.holds Trym.pinned (OpenSpec.ofChange fnOtherSumsToOffsetWrong)

/-- 'zzlaws_root_b1.FnOtherIsInvolution': WHATEVER THE INPUT: true; the input reads as it did. -/
def fnOtherIsInvolutionSpec : ChangeSpec := { name := "fnOtherIsInvolution", fn := fun _ => fun
  | [d1, d2, d3, d4] => { results := [.lit (.bool true)], args := [d1, d2, d3, d4] }
  | _ => none }
def fnOtherIsInvolutionRow : OpenClaim := { program := "qxb6600190amods", sum := "f8a33cc8ceea3385b259231cb5588b14afa8c8d115dbc4346611d023d108d47d", func := "example.com/cowbird/cowbird/zzlaws_root_b1.FnOtherIsInvolution", spec := "fnOtherIsInvolution", make := .lifted ["publicsums"], apart := false }
def FnOtherIsInvolutionSaid : Prop := fnOtherIsInvolutionRow.holds Trym.pinned (OpenSpec.ofChange fnOtherIsInvolutionSpec)

/-- ITS FALSE NEIGHBOUR: 'it returns false'. Refute it at one input. -/
def fnOtherIsInvolutionWrong : ChangeSpec := { name := "fnOtherIsInvolution", fn := fun _ => fun
  | [d1, d2, d3, d4] => { results := [.lit (.bool false)], args := [d1, d2, d3, d4] }
  | _ => none }
def FnOtherIsInvolutionWrongFalsely : Prop := fnOtherIsInvolutionRow.holds Trym.pinned (OpenSpec.ofChange fnOtherIsInvolutionWrong)

/-- 'zzlaws_root_b1.FnOtherFixedPointsExactly': WHATEVER THE INPUT: true; the input reads as it did. -/
def fnOtherFixedPointsExactlySpec : ChangeSpec := { name := "fnOtherFixedPointsExactly", fn := fun _ => fun
  | [d1, d2, d3, d4] => { results := [.lit (.bool true)], args := [d1, d2, d3, d4] }
  | _ => none }
def fnOtherFixedPointsExactlyRow : OpenClaim := { program := "qxb6600190amods", sum := "f8a33cc8ceea3385b259231cb5588b14afa8c8d115dbc4346611d023d108d47d", func := "example.com/cowbird/cowbird/zzlaws_root_b1.FnOtherFixedPointsExactly", spec := "fnOtherFixedPointsExactly", make := .lifted ["publicsums"], apart := false }
def FnOtherFixedPointsExactlySaid : Prop := fnOtherFixedPointsExactlyRow.holds Trym.pinned (OpenSpec.ofChange fnOtherFixedPointsExactlySpec)

/-- ITS FALSE NEIGHBOUR: 'it returns false'. Refute it at one input. -/
def fnOtherFixedPointsExactlyWrong : ChangeSpec := { name := "fnOtherFixedPointsExactly", fn := fun _ => fun
  | [d1, d2, d3, d4] => { results := [.lit (.bool false)], args := [d1, d2, d3, d4] }
  | _ => none }
def FnOtherFixedPointsExactlyWrongFalsely : Prop := fnOtherFixedPointsExactlyRow.holds Trym.pinned (OpenSpec.ofChange fnOtherFixedPointsExactlyWrong)

/-- 'zzlaws_root_b1.FnAscendingIsSortedRepack': WHATEVER THE INPUT: true; the input reads as it did. -/
def fnAscendingIsSortedRepackSpec : ChangeSpec := { name := "fnAscendingIsSortedRepack", fn := fun _ => fun
  | [d] => { results := [.lit (.bool true)], args := [d] }
  | _ => none }
def fnAscendingIsSortedRepackRow : OpenClaim := { program := "qxb6600190amods", sum := "f8a33cc8ceea3385b259231cb5588b14afa8c8d115dbc4346611d023d108d47d", func := "example.com/cowbird/cowbird/zzlaws_root_b1.FnAscendingIsSortedRepack", spec := "fnAscendingIsSortedRepack", make := .lifted ["publicsums"], apart := false }
def FnAscendingIsSortedRepackSaid : Prop := fnAscendingIsSortedRepackRow.holds Trym.pinned (OpenSpec.ofChange fnAscendingIsSortedRepackSpec)

/-- ITS FALSE NEIGHBOUR: 'it returns false'. Refute it at one input. -/
def fnAscendingIsSortedRepackWrong : ChangeSpec := { name := "fnAscendingIsSortedRepack", fn := fun _ => fun
  | [d] => { results := [.lit (.bool false)], args := [d] }
  | _ => none }
def FnAscendingIsSortedRepackWrongFalsely : Prop := fnAscendingIsSortedRepackRow.holds Trym.pinned (OpenSpec.ofChange fnAscendingIsSortedRepackWrong)

/-- 'zzlaws_root_b1.FnAscendingMirror': WHATEVER THE INPUT: true; the input reads as it did. -/
def fnAscendingMirrorSpec : ChangeSpec := { name := "fnAscendingMirror", fn := fun _ => fun
  | [d] => { results := [.lit (.bool true)], args := [d] }
  | _ => none }
def fnAscendingMirrorRow : OpenClaim := { program := "qxb6600190amods", sum := "f8a33cc8ceea3385b259231cb5588b14afa8c8d115dbc4346611d023d108d47d", func := "example.com/cowbird/cowbird/zzlaws_root_b1.FnAscendingMirror", spec := "fnAscendingMirror", make := .lifted ["publicsums"], apart := false }
def FnAscendingMirrorSaid : Prop := fnAscendingMirrorRow.holds Trym.pinned (OpenSpec.ofChange fnAscendingMirrorSpec)

/-- ITS FALSE NEIGHBOUR: 'it returns false'. Refute it at one input. -/
def fnAscendingMirrorWrong : ChangeSpec := { name := "fnAscendingMirror", fn := fun _ => fun
  | [d] => { results := [.lit (.bool false)], args := [d] }
  | _ => none }
def FnAscendingMirrorWrongFalsely : Prop := fnAscendingMirrorRow.holds Trym.pinned (OpenSpec.ofChange fnAscendingMirrorWrong)

/-- 'zzlaws_root_b1.FnSettleInsertsAtCountedPlace': WHATEVER THE INPUT: true; the input reads as it did. -/
def fnSettleInsertsAtCountedPlaceSpec : ChangeSpec := { name := "fnSettleInsertsAtCountedPlace", fn := fun _ => fun
  | [d1, d2] => { results := [.lit (.bool true)], args := [d1, d2] }
  | _ => none }
def fnSettleInsertsAtCountedPlaceRow : OpenClaim := { program := "qxb6600190amods", sum := "f8a33cc8ceea3385b259231cb5588b14afa8c8d115dbc4346611d023d108d47d", func := "example.com/cowbird/cowbird/zzlaws_root_b1.FnSettleInsertsAtCountedPlace", spec := "fnSettleInsertsAtCountedPlace", make := .lifted ["publicsums"], apart := false }
def FnSettleInsertsAtCountedPlaceSaid : Prop := fnSettleInsertsAtCountedPlaceRow.holds Trym.pinned (OpenSpec.ofChange fnSettleInsertsAtCountedPlaceSpec)

/-- ITS FALSE NEIGHBOUR: 'it returns false'. Refute it at one input. -/
def fnSettleInsertsAtCountedPlaceWrong : ChangeSpec := { name := "fnSettleInsertsAtCountedPlace", fn := fun _ => fun
  | [d1, d2] => { results := [.lit (.bool false)], args := [d1, d2] }
  | _ => none }
def FnSettleInsertsAtCountedPlaceWrongFalsely : Prop := fnSettleInsertsAtCountedPlaceRow.holds Trym.pinned (OpenSpec.ofChange fnSettleInsertsAtCountedPlaceWrong)

/-- 'zzlaws_root_b1.FnSettleAgreesWithAscending': WHATEVER THE INPUT: true; the input reads as it did. -/
def fnSettleAgreesWithAscendingSpec : ChangeSpec := { name := "fnSettleAgreesWithAscending", fn := fun _ => fun
  | [d1, d2] => { results := [.lit (.bool true)], args := [d1, d2] }
  | _ => none }
def fnSettleAgreesWithAscendingRow : OpenClaim := { program := "qxb6600190amods", sum := "f8a33cc8ceea3385b259231cb5588b14afa8c8d115dbc4346611d023d108d47d", func := "example.com/cowbird/cowbird/zzlaws_root_b1.FnSettleAgreesWithAscending", spec := "fnSettleAgreesWithAscending", make := .lifted ["publicsums"], apart := false }
def FnSettleAgreesWithAscendingSaid : Prop := fnSettleAgreesWithAscendingRow.holds Trym.pinned (OpenSpec.ofChange fnSettleAgreesWithAscendingSpec)

/-- ITS FALSE NEIGHBOUR: 'it returns false'. Refute it at one input. -/
def fnSettleAgreesWithAscendingWrong : ChangeSpec := { name := "fnSettleAgreesWithAscending", fn := fun _ => fun
  | [d1, d2] => { results := [.lit (.bool false)], args := [d1, d2] }
  | _ => none }
def FnSettleAgreesWithAscendingWrongFalsely : Prop := fnSettleAgreesWithAscendingRow.holds Trym.pinned (OpenSpec.ofChange fnSettleAgreesWithAscendingWrong)

/-- 'zzlaws_root_b1.FnSettleKeepsBucketOverScript': WHATEVER THE INPUT: true; the input reads as it did. -/
def fnSettleKeepsBucketOverScriptSpec : ChangeSpec := { name := "fnSettleKeepsBucketOverScript", fn := fun _ => fun
  | [d1, d2] => { results := [.lit (.bool true)], args := [d1, d2] }
  | _ => none }
def fnSettleKeepsBucketOverScriptRow : OpenClaim := { program := "qxb6600190amods", sum := "f8a33cc8ceea3385b259231cb5588b14afa8c8d115dbc4346611d023d108d47d", func := "example.com/cowbird/cowbird/zzlaws_root_b1.FnSettleKeepsBucketOverScript", spec := "fnSettleKeepsBucketOverScript", make := .lifted ["publicsums"], apart := false }
def FnSettleKeepsBucketOverScriptSaid : Prop := fnSettleKeepsBucketOverScriptRow.holds Trym.pinned (OpenSpec.ofChange fnSettleKeepsBucketOverScriptSpec)

/-- ITS FALSE NEIGHBOUR: 'it returns false'. Refute it at one input. -/
def fnSettleKeepsBucketOverScriptWrong : ChangeSpec := { name := "fnSettleKeepsBucketOverScript", fn := fun _ => fun
  | [d1, d2] => { results := [.lit (.bool false)], args := [d1, d2] }
  | _ => none }
def FnSettleKeepsBucketOverScriptWrongFalsely : Prop := fnSettleKeepsBucketOverScriptRow.holds Trym.pinned (OpenSpec.ofChange fnSettleKeepsBucketOverScriptWrong)

end Rows
end Go.Proofs.Qxb6600190aMods

/-
  No cell of these rows narrows 'for every input' (looked for: loops, veiled, ifaces, maps, wideKeys, modest, calm, conditions, laid).
  DERIVED. THE GIVEN ROWS OF THIS SEAT. 5 by the template 'for every input the law returns true; each argument reads behind the call as it read before'; 0 by the template 'total and deterministic' (their statements: Qxb6600406aTotals.lean).
  GIVEN WITH THE SEED: the statements are not yours to turn. If you find one false, say at which input.
  Laid BY PROGRAM, IN A SANDBOX (cutbox-rows.mjs): the forced cells as the released guide's own fill.sh prints them over the translation 30c5073b2df91a8d… (all of the seat's roots in one cut). By AI agents, Wed Nov 11 2026. No macro, syntax, notation, axiom, sorry.
-/
import Derived.Test.Qxb6600406aChecked
import GoSem.Claim
import GoSem.ClaimJoined
import GoSem.ClaimMapViews
import Derived.JoinedTies
import Derived.KernelRfl
namespace Go.Proofs.Qxb6600406a
/- THE CELL 'sum', in the pinned program and in every row, IS THE sha256 OF THE DUMP (.gsa) THAT Qxb6600406aProg.lean LOADS. Nothing in Lean hashes anything: it is a label: what it is worth is what the hold of that sum in a sandbox is worth. -/
noncomputable def Try.pinned : Pinned := { name := "qxb6600406a", sum := "30c5073b2df91a8d99a2dbfbbb3304149ab6f3669a81f559844aac3186651d60", checked := Try.checked }
namespace Rows
def none {H : Type} : Left H := { results := [], args := [] }

/-- 'zzlaws_internal_format_b1.FnDataRowsStepByRowKind': WHATEVER THE INPUT: true; the input reads as it did. -/
def fnDataRowsStepByRowKindSpec : ChangeSpec := { name := "fnDataRowsStepByRowKind", fn := fun _ => fun
  | [d] => { results := [.lit (.bool true)], args := [d] }
  | _ => none }
def fnDataRowsStepByRowKindRow : OpenClaim := { program := "qxb6600406a", sum := "30c5073b2df91a8d99a2dbfbbb3304149ab6f3669a81f559844aac3186651d60", func := "example.com/ledgerline/ledgerline/zzlaws_internal_format_b1.FnDataRowsStepByRowKind", spec := "fnDataRowsStepByRowKind", apart := false }
def FnDataRowsStepByRowKindSaid : Prop := fnDataRowsStepByRowKindRow.holds Try.pinned (OpenSpec.ofChange fnDataRowsStepByRowKindSpec)

/-- ITS FALSE NEIGHBOUR: 'it returns false'. Refute it at one input. -/
def fnDataRowsStepByRowKindWrong : ChangeSpec := { name := "fnDataRowsStepByRowKind", fn := fun _ => fun
  | [d] => { results := [.lit (.bool false)], args := [d] }
  | _ => none }
def FnDataRowsStepByRowKindWrongFalsely : Prop := fnDataRowsStepByRowKindRow.holds Try.pinned (OpenSpec.ofChange fnDataRowsStepByRowKindWrong)

/-- 'zzlaws_internal_format_b1.FnDataRowsPlaceOfKthRow': WHATEVER THE INPUT: true; the input reads as it did. -/
def fnDataRowsPlaceOfKthRowSpec : ChangeSpec := { name := "fnDataRowsPlaceOfKthRow", fn := fun _ => fun
  | [d] => { results := [.lit (.bool true)], args := [d] }
  | _ => none }
def fnDataRowsPlaceOfKthRowRow : OpenClaim := { program := "qxb6600406a", sum := "30c5073b2df91a8d99a2dbfbbb3304149ab6f3669a81f559844aac3186651d60", func := "example.com/ledgerline/ledgerline/zzlaws_internal_format_b1.FnDataRowsPlaceOfKthRow", spec := "fnDataRowsPlaceOfKthRow", apart := false }
def FnDataRowsPlaceOfKthRowSaid : Prop := fnDataRowsPlaceOfKthRowRow.holds Try.pinned (OpenSpec.ofChange fnDataRowsPlaceOfKthRowSpec)

/-- ITS FALSE NEIGHBOUR: 'it returns false'. Refute it at one input. -/
def fnDataRowsPlaceOfKthRowWrong : ChangeSpec := { name := "fnDataRowsPlaceOfKthRow", fn := fun _ => fun
  | [d] => { results := [.lit (.bool false)], args := [d] }
  | _ => none }
def FnDataRowsPlaceOfKthRowWrongFalsely : Prop := fnDataRowsPlaceOfKthRowRow.holds Try.pinned (OpenSpec.ofChange fnDataRowsPlaceOfKthRowWrong)

/-- 'zzlaws_internal_format_b1.FnCutSeesOnlyLengthAndLastByte': WHATEVER THE INPUT: true; the input reads as it did. -/
def fnCutSeesOnlyLengthAndLastByteSpec : ChangeSpec := { name := "fnCutSeesOnlyLengthAndLastByte", fn := fun _ => fun
  | [d1, d2] => { results := [.lit (.bool true)], args := [d1, d2] }
  | _ => none }
def fnCutSeesOnlyLengthAndLastByteRow : OpenClaim := { program := "qxb6600406a", sum := "30c5073b2df91a8d99a2dbfbbb3304149ab6f3669a81f559844aac3186651d60", func := "example.com/ledgerline/ledgerline/zzlaws_internal_format_b1.FnCutSeesOnlyLengthAndLastByte", spec := "fnCutSeesOnlyLengthAndLastByte", apart := false }
def FnCutSeesOnlyLengthAndLastByteSaid : Prop := fnCutSeesOnlyLengthAndLastByteRow.holds Try.pinned (OpenSpec.ofChange fnCutSeesOnlyLengthAndLastByteSpec)

/-- ITS FALSE NEIGHBOUR: 'it returns false'. Refute it at one input. -/
def fnCutSeesOnlyLengthAndLastByteWrong : ChangeSpec := { name := "fnCutSeesOnlyLengthAndLastByte", fn := fun _ => fun
  | [d1, d2] => { results := [.lit (.bool false)], args := [d1, d2] }
  | _ => none }
def FnCutSeesOnlyLengthAndLastByteWrongFalsely : Prop := fnCutSeesOnlyLengthAndLastByteRow.holds Try.pinned (OpenSpec.ofChange fnCutSeesOnlyLengthAndLastByteWrong)

/-- 'zzlaws_internal_format_b1.FnCutCountOverOneRow': WHATEVER THE INPUT: true; the input reads as it did. -/
def fnCutCountOverOneRowSpec : ChangeSpec := { name := "fnCutCountOverOneRow", fn := fun _ => fun
  | [d] => { results := [.lit (.bool true)], args := [d] }
  | _ => none }
def fnCutCountOverOneRowRow : OpenClaim := { program := "qxb6600406a", sum := "30c5073b2df91a8d99a2dbfbbb3304149ab6f3669a81f559844aac3186651d60", func := "example.com/ledgerline/ledgerline/zzlaws_internal_format_b1.FnCutCountOverOneRow", spec := "fnCutCountOverOneRow", apart := false }
def FnCutCountOverOneRowSaid : Prop := fnCutCountOverOneRowRow.holds Try.pinned (OpenSpec.ofChange fnCutCountOverOneRowSpec)

/-- ITS FALSE NEIGHBOUR: 'it returns false'. Refute it at one input. -/
def fnCutCountOverOneRowWrong : ChangeSpec := { name := "fnCutCountOverOneRow", fn := fun _ => fun
  | [d] => { results := [.lit (.bool false)], args := [d] }
  | _ => none }
def FnCutCountOverOneRowWrongFalsely : Prop := fnCutCountOverOneRowRow.holds Try.pinned (OpenSpec.ofChange fnCutCountOverOneRowWrong)

/-- 'zzlaws_internal_format_b1.FnSplitValueJoinRoundTrip': WHATEVER THE INPUT: true; the input reads as it did. -/
def fnSplitValueJoinRoundTripSpec : ChangeSpec := { name := "fnSplitValueJoinRoundTrip", fn := fun _ => fun
  | [d1, d2] => { results := [.lit (.bool true)], args := [d1, d2] }
  | _ => none }
def fnSplitValueJoinRoundTripRow : OpenClaim := { program := "qxb6600406a", sum := "30c5073b2df91a8d99a2dbfbbb3304149ab6f3669a81f559844aac3186651d60", func := "example.com/ledgerline/ledgerline/zzlaws_internal_format_b1.FnSplitValueJoinRoundTrip", spec := "fnSplitValueJoinRoundTrip", inPlace := ["internal/bytealg.IndexByte"], apart := false }
def FnSplitValueJoinRoundTripSaid : Prop := fnSplitValueJoinRoundTripRow.holds Try.pinned (OpenSpec.ofChange fnSplitValueJoinRoundTripSpec)

/-- ITS FALSE NEIGHBOUR: 'it returns false'. Refute it at one input. -/
def fnSplitValueJoinRoundTripWrong : ChangeSpec := { name := "fnSplitValueJoinRoundTrip", fn := fun _ => fun
  | [d1, d2] => { results := [.lit (.bool false)], args := [d1, d2] }
  | _ => none }
def FnSplitValueJoinRoundTripWrongFalsely : Prop := fnSplitValueJoinRoundTripRow.holds Try.pinned (OpenSpec.ofChange fnSplitValueJoinRoundTripWrong)

end Rows
end Go.Proofs.Qxb6600406a

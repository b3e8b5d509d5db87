/-
  No cell of these rows narrows 'for every input' (looked for: loops, veiled, ifaces, maps, wideKeys, modest, calm, conditions, laid).
  DERIVED. THE GIVEN ROWS OF THIS SEAT. 5 by the template 'for every input the law returns true; each argument reads behind the call as it read before'; 0 by the template 'total and deterministic' (their statements: Qxb6600207aTotals.lean).
  GIVEN WITH THE SEED: the statements are not yours to turn. If you find one false, say at which input.
  Laid BY PROGRAM, IN A SANDBOX (cutbox-rows.mjs): the forced cells as the released guide's own fill.sh prints them over the translation e3b1f3cbb303a294… (all of the seat's roots in one cut). By AI agents, Wed Nov 11 2026. No macro, syntax, notation, axiom, sorry.
-/
import Derived.Test.Qxb6600207aChecked
import GoSem.Claim
import GoSem.ClaimJoined
import GoSem.ClaimMapViews
import Derived.JoinedTies
import Derived.KernelRfl
namespace Go.Proofs.Qxb6600207a
/- THE CELL 'sum', in the pinned program and in every row, IS THE sha256 OF THE DUMP (.gsa) THAT Qxb6600207aProg.lean LOADS. Nothing in Lean hashes anything: it is a label: what it is worth is what the hold of that sum in a sandbox is worth. -/
noncomputable def Try.pinned : Pinned := { name := "qxb6600207a", sum := "e3b1f3cbb303a29481f52274c87c982f9135ce62e56a17e2710ee6ae6631ed9b", checked := Try.checked }
namespace Rows
def none {H : Type} : Left H := { results := [], args := [] }

/-- 'zzlaws_root_b1.FnNextSeesRoundOnlyThroughLast': WHATEVER THE INPUT: true; the input reads as it did. -/
def fnNextSeesRoundOnlyThroughLastSpec : ChangeSpec := { name := "fnNextSeesRoundOnlyThroughLast", fn := fun _ => fun
  | [d1, d2, d3, d4, d5, d6, d7, d8] => { results := [.lit (.bool true)], args := [d1, d2, d3, d4, d5, d6, d7, d8] }
  | _ => none }
def fnNextSeesRoundOnlyThroughLastRow : OpenClaim := { program := "qxb6600207a", sum := "e3b1f3cbb303a29481f52274c87c982f9135ce62e56a17e2710ee6ae6631ed9b", func := "example.com/plenum-tally/plenum-tally/zzlaws_root_b1.FnNextSeesRoundOnlyThroughLast", spec := "fnNextSeesRoundOnlyThroughLast", apart := false }
def FnNextSeesRoundOnlyThroughLastSaid : Prop := fnNextSeesRoundOnlyThroughLastRow.holds Try.pinned (OpenSpec.ofChange fnNextSeesRoundOnlyThroughLastSpec)

/-- ITS FALSE NEIGHBOUR: 'it returns false'. Refute it at one input. -/
def fnNextSeesRoundOnlyThroughLastWrong : ChangeSpec := { name := "fnNextSeesRoundOnlyThroughLast", fn := fun _ => fun
  | [d1, d2, d3, d4, d5, d6, d7, d8] => { results := [.lit (.bool false)], args := [d1, d2, d3, d4, d5, d6, d7, d8] }
  | _ => none }
def FnNextSeesRoundOnlyThroughLastWrongFalsely : Prop := fnNextSeesRoundOnlyThroughLastRow.holds Try.pinned (OpenSpec.ofChange fnNextSeesRoundOnlyThroughLastWrong)

/-- 'zzlaws_root_b1.FnNextMoreMembersNeverFail': WHATEVER THE INPUT: true; the input reads as it did. -/
def fnNextMoreMembersNeverFailSpec : ChangeSpec := { name := "fnNextMoreMembersNeverFail", fn := fun _ => fun
  | [d1, d2, d3, d4, d5, d6, d7, d8] => { results := [.lit (.bool true)], args := [d1, d2, d3, d4, d5, d6, d7, d8] }
  | _ => none }
def fnNextMoreMembersNeverFailRow : OpenClaim := { program := "qxb6600207a", sum := "e3b1f3cbb303a29481f52274c87c982f9135ce62e56a17e2710ee6ae6631ed9b", func := "example.com/plenum-tally/plenum-tally/zzlaws_root_b1.FnNextMoreMembersNeverFail", spec := "fnNextMoreMembersNeverFail", apart := false }
def FnNextMoreMembersNeverFailSaid : Prop := fnNextMoreMembersNeverFailRow.holds Try.pinned (OpenSpec.ofChange fnNextMoreMembersNeverFailSpec)

/-- ITS FALSE NEIGHBOUR: 'it returns false'. Refute it at one input. -/
def fnNextMoreMembersNeverFailWrong : ChangeSpec := { name := "fnNextMoreMembersNeverFail", fn := fun _ => fun
  | [d1, d2, d3, d4, d5, d6, d7, d8] => { results := [.lit (.bool false)], args := [d1, d2, d3, d4, d5, d6, d7, d8] }
  | _ => none }
def FnNextMoreMembersNeverFailWrongFalsely : Prop := fnNextMoreMembersNeverFailRow.holds Try.pinned (OpenSpec.ofChange fnNextMoreMembersNeverFailWrong)

/-- 'zzlaws_root_b1.FnDeclaredMatchesFirstQuotedOccurrence': WHATEVER THE INPUT: true; the input reads as it did. -/
def fnDeclaredMatchesFirstQuotedOccurrenceSpec : ChangeSpec := { name := "fnDeclaredMatchesFirstQuotedOccurrence", fn := fun _ => fun
  | [d1, d2] => { results := [.lit (.bool true)], args := [d1, d2] }
  | _ => none }
def fnDeclaredMatchesFirstQuotedOccurrenceRow : OpenClaim := { program := "qxb6600207a", sum := "e3b1f3cbb303a29481f52274c87c982f9135ce62e56a17e2710ee6ae6631ed9b", func := "example.com/plenum-tally/plenum-tally/zzlaws_root_b1.FnDeclaredMatchesFirstQuotedOccurrence", spec := "fnDeclaredMatchesFirstQuotedOccurrence", inPlace := ["internal/bytealg.IndexByte", "internal/bytealg.Index"], named := ["internal/bytealg.MaxLen"], apart := false }
def FnDeclaredMatchesFirstQuotedOccurrenceSaid : Prop := fnDeclaredMatchesFirstQuotedOccurrenceRow.holds Try.pinned (OpenSpec.ofChange fnDeclaredMatchesFirstQuotedOccurrenceSpec)

/-- ITS FALSE NEIGHBOUR: 'it returns false'. Refute it at one input. -/
def fnDeclaredMatchesFirstQuotedOccurrenceWrong : ChangeSpec := { name := "fnDeclaredMatchesFirstQuotedOccurrence", fn := fun _ => fun
  | [d1, d2] => { results := [.lit (.bool false)], args := [d1, d2] }
  | _ => none }
def FnDeclaredMatchesFirstQuotedOccurrenceWrongFalsely : Prop := fnDeclaredMatchesFirstQuotedOccurrenceRow.holds Try.pinned (OpenSpec.ofChange fnDeclaredMatchesFirstQuotedOccurrenceWrong)

/-- 'zzlaws_root_b1.FnDeclaredReadsBackWrittenValue': WHATEVER THE INPUT: true; the input reads as it did. -/
def fnDeclaredReadsBackWrittenValueSpec : ChangeSpec := { name := "fnDeclaredReadsBackWrittenValue", fn := fun _ => fun
  | [d1, d2, d3, d4, d5] => { results := [.lit (.bool true)], args := [d1, d2, d3, d4, d5] }
  | _ => none }
def fnDeclaredReadsBackWrittenValueRow : OpenClaim := { program := "qxb6600207a", sum := "e3b1f3cbb303a29481f52274c87c982f9135ce62e56a17e2710ee6ae6631ed9b", func := "example.com/plenum-tally/plenum-tally/zzlaws_root_b1.FnDeclaredReadsBackWrittenValue", spec := "fnDeclaredReadsBackWrittenValue", inPlace := ["internal/bytealg.IndexByte", "internal/bytealg.Index"], named := ["internal/bytealg.MaxLen"], apart := false }
def FnDeclaredReadsBackWrittenValueSaid : Prop := fnDeclaredReadsBackWrittenValueRow.holds Try.pinned (OpenSpec.ofChange fnDeclaredReadsBackWrittenValueSpec)

/-- ITS FALSE NEIGHBOUR: 'it returns false'. Refute it at one input. -/
def fnDeclaredReadsBackWrittenValueWrong : ChangeSpec := { name := "fnDeclaredReadsBackWrittenValue", fn := fun _ => fun
  | [d1, d2, d3, d4, d5] => { results := [.lit (.bool false)], args := [d1, d2, d3, d4, d5] }
  | _ => none }
def FnDeclaredReadsBackWrittenValueWrongFalsely : Prop := fnDeclaredReadsBackWrittenValueRow.holds Try.pinned (OpenSpec.ofChange fnDeclaredReadsBackWrittenValueWrong)

/-- 'zzlaws_root_b1.FnDeclaredFoundValueSurvivesAppending': WHATEVER THE INPUT: true; the input reads as it did. -/
def fnDeclaredFoundValueSurvivesAppendingSpec : ChangeSpec := { name := "fnDeclaredFoundValueSurvivesAppending", fn := fun _ => fun
  | [d1, d2, d3] => { results := [.lit (.bool true)], args := [d1, d2, d3] }
  | _ => none }
def fnDeclaredFoundValueSurvivesAppendingRow : OpenClaim := { program := "qxb6600207a", sum := "e3b1f3cbb303a29481f52274c87c982f9135ce62e56a17e2710ee6ae6631ed9b", func := "example.com/plenum-tally/plenum-tally/zzlaws_root_b1.FnDeclaredFoundValueSurvivesAppending", spec := "fnDeclaredFoundValueSurvivesAppending", inPlace := ["internal/bytealg.IndexByte", "internal/bytealg.Index"], named := ["internal/bytealg.MaxLen"], apart := false }
def FnDeclaredFoundValueSurvivesAppendingSaid : Prop := fnDeclaredFoundValueSurvivesAppendingRow.holds Try.pinned (OpenSpec.ofChange fnDeclaredFoundValueSurvivesAppendingSpec)

/-- ITS FALSE NEIGHBOUR: 'it returns false'. Refute it at one input. -/
def fnDeclaredFoundValueSurvivesAppendingWrong : ChangeSpec := { name := "fnDeclaredFoundValueSurvivesAppending", fn := fun _ => fun
  | [d1, d2, d3] => { results := [.lit (.bool false)], args := [d1, d2, d3] }
  | _ => none }
def FnDeclaredFoundValueSurvivesAppendingWrongFalsely : Prop := fnDeclaredFoundValueSurvivesAppendingRow.holds Try.pinned (OpenSpec.ofChange fnDeclaredFoundValueSurvivesAppendingWrong)

end Rows
end Go.Proofs.Qxb6600207a

/-
  No cell of these rows narrows 'for every input' (looked for: loops, veiled, ifaces, maps, wideKeys, modest, calm, conditions, laid).
  DERIVED. THE GIVEN ROWS OF THIS SEAT. 6 by the template 'for every input the law returns true; each argument reads behind the call as it read before'; 0 by the template 'total and deterministic' (their statements: Qxb6600023aTotals.lean).
  GIVEN WITH THE SEED: the statements are not yours to turn. If you find one false, say at which input.
  Laid BY PROGRAM, IN A SANDBOX (cutbox-rows.mjs): the forced cells as the released guide's own fill.sh prints them over the translation cf6dc44d88a1db52… (all of the seat's roots in one cut). By AI agents, Wed Nov 11 2026. No macro, syntax, notation, axiom, sorry.
-/
import Derived.Test.Qxb6600023aChecked
import GoSem.Claim
import GoSem.ClaimJoined
import GoSem.ClaimMapViews
import Derived.JoinedTies
import Derived.KernelRfl
namespace Go.Proofs.Qxb6600023a
/- THE CELL 'sum', in the pinned program and in every row, IS THE sha256 OF THE DUMP (.gsa) THAT Qxb6600023aProg.lean LOADS. Nothing in Lean hashes anything: it is a label: what it is worth is what the hold of that sum in a sandbox is worth. -/
noncomputable def Try.pinned : Pinned := { name := "qxb6600023a", sum := "cf6dc44d88a1db522962bdff0659f2be51505cf99f242b95a46a6d47b2554f65", checked := Try.checked }
namespace Rows
def none {H : Type} : Left H := { results := [], args := [] }

/-- 'zzlaws_oci_b1.FnBelowCoversHeldNames': WHATEVER THE INPUT: true; the input reads as it did. -/
def fnBelowCoversHeldNamesSpec : ChangeSpec := { name := "fnBelowCoversHeldNames", fn := fun _ => fun
  | [d1, d2, d3, d4, d5] => { results := [.lit (.bool true)], args := [d1, d2, d3, d4, d5] }
  | _ => none }
def fnBelowCoversHeldNamesRow : OpenClaim := { program := "qxb6600023a", sum := "cf6dc44d88a1db522962bdff0659f2be51505cf99f242b95a46a6d47b2554f65", func := "example.com/stowage/stowage/zzlaws_oci_b1.FnBelowCoversHeldNames", spec := "fnBelowCoversHeldNames", inPlace := ["internal/bytealg.IndexByteString", "internal/bytealg.IndexString"], recurses := true, named := ["internal/bytealg.MaxLen"], apart := false }
def FnBelowCoversHeldNamesSaid : Prop := fnBelowCoversHeldNamesRow.holds Try.pinned (OpenSpec.ofChange fnBelowCoversHeldNamesSpec)

/-- ITS FALSE NEIGHBOUR: 'it returns false'. Refute it at one input. -/
def fnBelowCoversHeldNamesWrong : ChangeSpec := { name := "fnBelowCoversHeldNames", fn := fun _ => fun
  | [d1, d2, d3, d4, d5] => { results := [.lit (.bool false)], args := [d1, d2, d3, d4, d5] }
  | _ => none }
def FnBelowCoversHeldNamesWrongFalsely : Prop := fnBelowCoversHeldNamesRow.holds Try.pinned (OpenSpec.ofChange fnBelowCoversHeldNamesWrong)

/-- 'zzlaws_oci_b1.FnBelowNextLeadsToHeldNames': WHATEVER THE INPUT: true; the input reads as it did. -/
def fnBelowNextLeadsToHeldNamesSpec : ChangeSpec := { name := "fnBelowNextLeadsToHeldNames", fn := fun _ => fun
  | [d1, d2, d3, d4] => { results := [.lit (.bool true)], args := [d1, d2, d3, d4] }
  | _ => none }
def fnBelowNextLeadsToHeldNamesRow : OpenClaim := { program := "qxb6600023a", sum := "cf6dc44d88a1db522962bdff0659f2be51505cf99f242b95a46a6d47b2554f65", func := "example.com/stowage/stowage/zzlaws_oci_b1.FnBelowNextLeadsToHeldNames", spec := "fnBelowNextLeadsToHeldNames", inPlace := ["internal/bytealg.IndexByteString", "internal/bytealg.IndexString"], recurses := true, named := ["internal/bytealg.MaxLen"], apart := false }
def FnBelowNextLeadsToHeldNamesSaid : Prop := fnBelowNextLeadsToHeldNamesRow.holds Try.pinned (OpenSpec.ofChange fnBelowNextLeadsToHeldNamesSpec)

/-- ITS FALSE NEIGHBOUR: 'it returns false'. Refute it at one input. -/
def fnBelowNextLeadsToHeldNamesWrong : ChangeSpec := { name := "fnBelowNextLeadsToHeldNames", fn := fun _ => fun
  | [d1, d2, d3, d4] => { results := [.lit (.bool false)], args := [d1, d2, d3, d4] }
  | _ => none }
def FnBelowNextLeadsToHeldNamesWrongFalsely : Prop := fnBelowNextLeadsToHeldNamesRow.holds Try.pinned (OpenSpec.ofChange fnBelowNextLeadsToHeldNamesWrong)

/-- 'zzlaws_oci_b1.FnBelowGrowsWithTheSet': WHATEVER THE INPUT: true; the input reads as it did. -/
def fnBelowGrowsWithTheSetSpec : ChangeSpec := { name := "fnBelowGrowsWithTheSet", fn := fun _ => fun
  | [d1, d2, d3, d4, d5, d6] => { results := [.lit (.bool true)], args := [d1, d2, d3, d4, d5, d6] }
  | _ => none }
def fnBelowGrowsWithTheSetRow : OpenClaim := { program := "qxb6600023a", sum := "cf6dc44d88a1db522962bdff0659f2be51505cf99f242b95a46a6d47b2554f65", func := "example.com/stowage/stowage/zzlaws_oci_b1.FnBelowGrowsWithTheSet", spec := "fnBelowGrowsWithTheSet", inPlace := ["internal/bytealg.IndexByteString", "internal/bytealg.IndexString"], recurses := true, named := ["internal/bytealg.MaxLen"], apart := false }
def FnBelowGrowsWithTheSetSaid : Prop := fnBelowGrowsWithTheSetRow.holds Try.pinned (OpenSpec.ofChange fnBelowGrowsWithTheSetSpec)

/-- ITS FALSE NEIGHBOUR: 'it returns false'. Refute it at one input. -/
def fnBelowGrowsWithTheSetWrong : ChangeSpec := { name := "fnBelowGrowsWithTheSet", fn := fun _ => fun
  | [d1, d2, d3, d4, d5, d6] => { results := [.lit (.bool false)], args := [d1, d2, d3, d4, d5, d6] }
  | _ => none }
def FnBelowGrowsWithTheSetWrongFalsely : Prop := fnBelowGrowsWithTheSetRow.holds Try.pinned (OpenSpec.ofChange fnBelowGrowsWithTheSetWrong)

/-- 'zzlaws_oci_b1.FnNameComponentMatchesGrammar': WHATEVER THE INPUT: true; the input reads as it did. -/
def fnNameComponentMatchesGrammarSpec : ChangeSpec := { name := "fnNameComponentMatchesGrammar", fn := fun _ => fun
  | [d] => { results := [.lit (.bool true)], args := [d] }
  | _ => none }
def fnNameComponentMatchesGrammarRow : OpenClaim := { program := "qxb6600023a", sum := "cf6dc44d88a1db522962bdff0659f2be51505cf99f242b95a46a6d47b2554f65", func := "example.com/stowage/stowage/zzlaws_oci_b1.FnNameComponentMatchesGrammar", spec := "fnNameComponentMatchesGrammar", apart := false }
def FnNameComponentMatchesGrammarSaid : Prop := fnNameComponentMatchesGrammarRow.holds Try.pinned (OpenSpec.ofChange fnNameComponentMatchesGrammarSpec)

/-- ITS FALSE NEIGHBOUR: 'it returns false'. Refute it at one input. -/
def fnNameComponentMatchesGrammarWrong : ChangeSpec := { name := "fnNameComponentMatchesGrammar", fn := fun _ => fun
  | [d] => { results := [.lit (.bool false)], args := [d] }
  | _ => none }
def FnNameComponentMatchesGrammarWrongFalsely : Prop := fnNameComponentMatchesGrammarRow.holds Try.pinned (OpenSpec.ofChange fnNameComponentMatchesGrammarWrong)

/-- 'zzlaws_oci_b1.FnNameComponentReversal': WHATEVER THE INPUT: true; the input reads as it did. -/
def fnNameComponentReversalSpec : ChangeSpec := { name := "fnNameComponentReversal", fn := fun _ => fun
  | [d] => { results := [.lit (.bool true)], args := [d] }
  | _ => none }
def fnNameComponentReversalRow : OpenClaim := { program := "qxb6600023a", sum := "cf6dc44d88a1db522962bdff0659f2be51505cf99f242b95a46a6d47b2554f65", func := "example.com/stowage/stowage/zzlaws_oci_b1.FnNameComponentReversal", spec := "fnNameComponentReversal", apart := false }
def FnNameComponentReversalSaid : Prop := fnNameComponentReversalRow.holds Try.pinned (OpenSpec.ofChange fnNameComponentReversalSpec)

/-- ITS FALSE NEIGHBOUR: 'it returns false'. Refute it at one input. -/
def fnNameComponentReversalWrong : ChangeSpec := { name := "fnNameComponentReversal", fn := fun _ => fun
  | [d] => { results := [.lit (.bool false)], args := [d] }
  | _ => none }
def FnNameComponentReversalWrongFalsely : Prop := fnNameComponentReversalRow.holds Try.pinned (OpenSpec.ofChange fnNameComponentReversalWrong)

/-- 'zzlaws_oci_b1.FnNameComponentJoins': WHATEVER THE INPUT: true; the input reads as it did. -/
def fnNameComponentJoinsSpec : ChangeSpec := { name := "fnNameComponentJoins", fn := fun _ => fun
  | [d1, d2, d3, d4] => { results := [.lit (.bool true)], args := [d1, d2, d3, d4] }
  | _ => none }
def fnNameComponentJoinsRow : OpenClaim := { program := "qxb6600023a", sum := "cf6dc44d88a1db522962bdff0659f2be51505cf99f242b95a46a6d47b2554f65", func := "example.com/stowage/stowage/zzlaws_oci_b1.FnNameComponentJoins", spec := "fnNameComponentJoins", apart := false }
def FnNameComponentJoinsSaid : Prop := fnNameComponentJoinsRow.holds Try.pinned (OpenSpec.ofChange fnNameComponentJoinsSpec)

/-- ITS FALSE NEIGHBOUR: 'it returns false'. Refute it at one input. -/
def fnNameComponentJoinsWrong : ChangeSpec := { name := "fnNameComponentJoins", fn := fun _ => fun
  | [d1, d2, d3, d4] => { results := [.lit (.bool false)], args := [d1, d2, d3, d4] }
  | _ => none }
def FnNameComponentJoinsWrongFalsely : Prop := fnNameComponentJoinsRow.holds Try.pinned (OpenSpec.ofChange fnNameComponentJoinsWrong)

end Rows
end Go.Proofs.Qxb6600023a

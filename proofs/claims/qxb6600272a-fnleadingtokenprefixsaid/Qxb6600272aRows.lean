/-
  No cell of these rows narrows 'for every input' (looked for: loops, veiled, ifaces, maps, wideKeys, modest, calm, conditions, laid).
  DERIVED. THE GIVEN ROWS OF THIS SEAT. 2 by the template 'for every input the law returns true; each argument reads behind the call as it read before'; 0 by the template 'total and deterministic' (their statements: Qxb6600272aTotals.lean).
  GIVEN WITH THE SEED: the statements are not yours to turn. If you find one false, say at which input.
  Laid BY PROGRAM, IN A SANDBOX (cutbox-rows.mjs): the forced cells as the released guide's own fill.sh prints them over the translation 340025ebe4b231c3… (all of the seat's roots in one cut). By AI agents, Wed Nov 11 2026. No macro, syntax, notation, axiom, sorry.
-/
import Derived.Test.Qxb6600272aChecked
import GoSem.Claim
import GoSem.ClaimJoined
import GoSem.ClaimMapViews
import Derived.JoinedTies
import Derived.KernelRfl
namespace Go.Proofs.Qxb6600272a
/- THE CELL 'sum', in the pinned program and in every row, IS THE sha256 OF THE DUMP (.gsa) THAT Qxb6600272aProg.lean LOADS. Nothing in Lean hashes anything: it is a label: what it is worth is what the hold of that sum in a sandbox is worth. -/
noncomputable def Try.pinned : Pinned := { name := "qxb6600272a", sum := "340025ebe4b231c3170e75f6a686df9b106055089a11333c66e7e96ad84469eb", checked := Try.checked }
namespace Rows
def none {H : Type} : Left H := { results := [], args := [] }

/-- 'zzlaws_registry_b1.FnLeadingTokenPrefix': WHATEVER THE INPUT: true; the input reads as it did. -/
def fnLeadingTokenPrefixSpec : ChangeSpec := { name := "fnLeadingTokenPrefix", fn := fun _ => fun
  | [d1, d2] => { results := [.lit (.bool true)], args := [d1, d2] }
  | _ => none }
def fnLeadingTokenPrefixRow : OpenClaim := { program := "qxb6600272a", sum := "340025ebe4b231c3170e75f6a686df9b106055089a11333c66e7e96ad84469eb", func := "example.com/countersign/countersign/zzlaws_registry_b1.FnLeadingTokenPrefix", spec := "fnLeadingTokenPrefix", inPlace := ["internal/bytealg.IndexByteString", "internal/bytealg.IndexString"], unfollowed := true, recurses := true, named := ["internal/bytealg.MaxLen"], apart := false }
def FnLeadingTokenPrefixSaid : Prop := fnLeadingTokenPrefixRow.holds Try.pinned (OpenSpec.ofChange fnLeadingTokenPrefixSpec)

/-- ITS FALSE NEIGHBOUR: 'it returns false'. Refute it at one input. -/
def fnLeadingTokenPrefixWrong : ChangeSpec := { name := "fnLeadingTokenPrefix", fn := fun _ => fun
  | [d1, d2] => { results := [.lit (.bool false)], args := [d1, d2] }
  | _ => none }
def FnLeadingTokenPrefixWrongFalsely : Prop := fnLeadingTokenPrefixRow.holds Try.pinned (OpenSpec.ofChange fnLeadingTokenPrefixWrong)

/-- 'zzlaws_registry_b1.FnLeadingTokenMaximal': WHATEVER THE INPUT: true; the input reads as it did. -/
def fnLeadingTokenMaximalSpec : ChangeSpec := { name := "fnLeadingTokenMaximal", fn := fun _ => fun
  | [d] => { results := [.lit (.bool true)], args := [d] }
  | _ => none }
def fnLeadingTokenMaximalRow : OpenClaim := { program := "qxb6600272a", sum := "340025ebe4b231c3170e75f6a686df9b106055089a11333c66e7e96ad84469eb", func := "example.com/countersign/countersign/zzlaws_registry_b1.FnLeadingTokenMaximal", spec := "fnLeadingTokenMaximal", inPlace := ["internal/bytealg.IndexByteString", "internal/bytealg.IndexString"], unfollowed := true, recurses := true, named := ["internal/bytealg.MaxLen"], apart := false }
def FnLeadingTokenMaximalSaid : Prop := fnLeadingTokenMaximalRow.holds Try.pinned (OpenSpec.ofChange fnLeadingTokenMaximalSpec)

/-- ITS FALSE NEIGHBOUR: 'it returns false'. Refute it at one input. -/
def fnLeadingTokenMaximalWrong : ChangeSpec := { name := "fnLeadingTokenMaximal", fn := fun _ => fun
  | [d] => { results := [.lit (.bool false)], args := [d] }
  | _ => none }
def FnLeadingTokenMaximalWrongFalsely : Prop := fnLeadingTokenMaximalRow.holds Try.pinned (OpenSpec.ofChange fnLeadingTokenMaximalWrong)

end Rows
end Go.Proofs.Qxb6600272a

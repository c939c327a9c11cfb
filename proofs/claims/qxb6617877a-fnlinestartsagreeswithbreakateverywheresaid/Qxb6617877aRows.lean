/-
  No cell of these rows narrows 'for every input' (looked for: loops, veiled, ifaces, maps, wideKeys, modest, calm, conditions, laid).
  DERIVED. THE GIVEN ROWS OF THIS SEAT. 5 by the template 'for every input the law returns true; each argument reads behind the call as it read before'; 0 by the template 'total and deterministic' (their statements: Qxb6617877aTotals.lean).
  GIVEN WITH THE SEED: the statements are not yours to turn. If you find one false, say at which input.
  Laid BY PROGRAM, IN A SANDBOX (cutbox-rows.mjs): the forced cells as the released guide's own fill.sh prints them over the translation ecd33462b75263e0… (all of the seat's roots in one cut). By AI agents, Wed Nov 11 2026. No macro, syntax, notation, axiom, sorry.
-/
import Derived.Test.Qxb6617877aChecked
import GoSem.Claim
import GoSem.ClaimJoined
import GoSem.ClaimMapViews
import Derived.JoinedTies
import Derived.KernelRfl
namespace Go.Proofs.Qxb6617877a
/- THE CELL 'sum', in the pinned program and in every row, IS THE sha256 OF THE DUMP (.gsa) THAT Qxb6617877aProg.lean LOADS. Nothing in Lean hashes anything: it is a label: what it is worth is what the hold of that sum in a sandbox is worth. -/
noncomputable def Try.pinned : Pinned := { name := "qxb6617877a", sum := "ecd33462b75263e05f78f46f708e99f117fae93e84c5e2a14c69988ad70d9f7b", checked := Try.checked }
namespace Rows
def none {H : Type} : Left H := { results := [], args := [] }

/-- 'zzlaws_internal_yamlnode_b1.FnLineStartsLookBehind': WHATEVER THE INPUT: true; the input reads as it did. -/
def fnLineStartsLookBehindSpec : ChangeSpec := { name := "fnLineStartsLookBehind", fn := fun _ => fun
  | [d] => { results := [.lit (.bool true)], args := [d] }
  | _ => none }
def fnLineStartsLookBehindRow : OpenClaim := { program := "qxb6617877a", sum := "ecd33462b75263e05f78f46f708e99f117fae93e84c5e2a14c69988ad70d9f7b", func := "example.com/doorwarden/doorwarden/zzlaws_internal_yamlnode_b1.FnLineStartsLookBehind", spec := "fnLineStartsLookBehind", apart := false }
def FnLineStartsLookBehindSaid : Prop := fnLineStartsLookBehindRow.holds Try.pinned (OpenSpec.ofChange fnLineStartsLookBehindSpec)

/-- ITS FALSE NEIGHBOUR: 'it returns false'. Refute it at one input. -/
def fnLineStartsLookBehindWrong : ChangeSpec := { name := "fnLineStartsLookBehind", fn := fun _ => fun
  | [d] => { results := [.lit (.bool false)], args := [d] }
  | _ => none }
def FnLineStartsLookBehindWrongFalsely : Prop := fnLineStartsLookBehindRow.holds Try.pinned (OpenSpec.ofChange fnLineStartsLookBehindWrong)

/-- 'zzlaws_internal_yamlnode_b1.FnLineStartsJoinAtCRLF': WHATEVER THE INPUT: true; the input reads as it did. -/
def fnLineStartsJoinAtCRLFSpec : ChangeSpec := { name := "fnLineStartsJoinAtCRLF", fn := fun _ => fun
  | [d1, d2] => { results := [.lit (.bool true)], args := [d1, d2] }
  | _ => none }
def fnLineStartsJoinAtCRLFRow : OpenClaim := { program := "qxb6617877a", sum := "ecd33462b75263e05f78f46f708e99f117fae93e84c5e2a14c69988ad70d9f7b", func := "example.com/doorwarden/doorwarden/zzlaws_internal_yamlnode_b1.FnLineStartsJoinAtCRLF", spec := "fnLineStartsJoinAtCRLF", apart := false }
def FnLineStartsJoinAtCRLFSaid : Prop := fnLineStartsJoinAtCRLFRow.holds Try.pinned (OpenSpec.ofChange fnLineStartsJoinAtCRLFSpec)

/-- ITS FALSE NEIGHBOUR: 'it returns false'. Refute it at one input. -/
def fnLineStartsJoinAtCRLFWrong : ChangeSpec := { name := "fnLineStartsJoinAtCRLF", fn := fun _ => fun
  | [d1, d2] => { results := [.lit (.bool false)], args := [d1, d2] }
  | _ => none }
def FnLineStartsJoinAtCRLFWrongFalsely : Prop := fnLineStartsJoinAtCRLFRow.holds Try.pinned (OpenSpec.ofChange fnLineStartsJoinAtCRLFWrong)

/-- 'zzlaws_internal_yamlnode_b1.FnBreakAtIsRuneBreakAfterAnyPrefix': WHATEVER THE INPUT: true; the input reads as it did. -/
def fnBreakAtIsRuneBreakAfterAnyPrefixSpec : ChangeSpec := { name := "fnBreakAtIsRuneBreakAfterAnyPrefix", fn := fun _ => fun
  | [d1, d2, d3] => { results := [.lit (.bool true)], args := [d1, d2, d3] }
  | _ => none }
def fnBreakAtIsRuneBreakAfterAnyPrefixRow : OpenClaim := { program := "qxb6617877a", sum := "ecd33462b75263e05f78f46f708e99f117fae93e84c5e2a14c69988ad70d9f7b", func := "example.com/doorwarden/doorwarden/zzlaws_internal_yamlnode_b1.FnBreakAtIsRuneBreakAfterAnyPrefix", spec := "fnBreakAtIsRuneBreakAfterAnyPrefix", apart := false }
def FnBreakAtIsRuneBreakAfterAnyPrefixSaid : Prop := fnBreakAtIsRuneBreakAfterAnyPrefixRow.holds Try.pinned (OpenSpec.ofChange fnBreakAtIsRuneBreakAfterAnyPrefixSpec)

/-- ITS FALSE NEIGHBOUR: 'it returns false'. Refute it at one input. -/
def fnBreakAtIsRuneBreakAfterAnyPrefixWrong : ChangeSpec := { name := "fnBreakAtIsRuneBreakAfterAnyPrefix", fn := fun _ => fun
  | [d1, d2, d3] => { results := [.lit (.bool false)], args := [d1, d2, d3] }
  | _ => none }
def FnBreakAtIsRuneBreakAfterAnyPrefixWrongFalsely : Prop := fnBreakAtIsRuneBreakAfterAnyPrefixRow.holds Try.pinned (OpenSpec.ofChange fnBreakAtIsRuneBreakAfterAnyPrefixWrong)

/-- 'zzlaws_internal_yamlnode_b1.FnPlainWordBytewiseRotatedHalved': WHATEVER THE INPUT: true; the input reads as it did. -/
def fnPlainWordBytewiseRotatedHalvedSpec : ChangeSpec := { name := "fnPlainWordBytewiseRotatedHalved", fn := fun _ => fun
  | [d1, d2] => { results := [.lit (.bool true)], args := [d1, d2] }
  | _ => none }
def fnPlainWordBytewiseRotatedHalvedRow : OpenClaim := { program := "qxb6617877a", sum := "ecd33462b75263e05f78f46f708e99f117fae93e84c5e2a14c69988ad70d9f7b", func := "example.com/doorwarden/doorwarden/zzlaws_internal_yamlnode_b1.FnPlainWordBytewiseRotatedHalved", spec := "fnPlainWordBytewiseRotatedHalved", apart := false }
def FnPlainWordBytewiseRotatedHalvedSaid : Prop := fnPlainWordBytewiseRotatedHalvedRow.holds Try.pinned (OpenSpec.ofChange fnPlainWordBytewiseRotatedHalvedSpec)

/-- ITS FALSE NEIGHBOUR: 'it returns false'. Refute it at one input. -/
def fnPlainWordBytewiseRotatedHalvedWrong : ChangeSpec := { name := "fnPlainWordBytewiseRotatedHalved", fn := fun _ => fun
  | [d1, d2] => { results := [.lit (.bool false)], args := [d1, d2] }
  | _ => none }
def FnPlainWordBytewiseRotatedHalvedWrongFalsely : Prop := fnPlainWordBytewiseRotatedHalvedRow.holds Try.pinned (OpenSpec.ofChange fnPlainWordBytewiseRotatedHalvedWrong)

/-- 'zzlaws_internal_yamlnode_b1.FnLineStartsAgreesWithBreakAtEverywhere': WHATEVER THE INPUT: true; the input reads as it did. -/
def fnLineStartsAgreesWithBreakAtEverywhereSpec : ChangeSpec := { name := "fnLineStartsAgreesWithBreakAtEverywhere", fn := fun _ => fun
  | [d] => { results := [.lit (.bool true)], args := [d] }
  | _ => none }
def fnLineStartsAgreesWithBreakAtEverywhereRow : OpenClaim := { program := "qxb6617877a", sum := "ecd33462b75263e05f78f46f708e99f117fae93e84c5e2a14c69988ad70d9f7b", func := "example.com/doorwarden/doorwarden/zzlaws_internal_yamlnode_b1.FnLineStartsAgreesWithBreakAtEverywhere", spec := "fnLineStartsAgreesWithBreakAtEverywhere", apart := false }
def FnLineStartsAgreesWithBreakAtEverywhereSaid : Prop := fnLineStartsAgreesWithBreakAtEverywhereRow.holds Try.pinned (OpenSpec.ofChange fnLineStartsAgreesWithBreakAtEverywhereSpec)

/-- ITS FALSE NEIGHBOUR: 'it returns false'. Refute it at one input. -/
def fnLineStartsAgreesWithBreakAtEverywhereWrong : ChangeSpec := { name := "fnLineStartsAgreesWithBreakAtEverywhere", fn := fun _ => fun
  | [d] => { results := [.lit (.bool false)], args := [d] }
  | _ => none }
def FnLineStartsAgreesWithBreakAtEverywhereWrongFalsely : Prop := fnLineStartsAgreesWithBreakAtEverywhereRow.holds Try.pinned (OpenSpec.ofChange fnLineStartsAgreesWithBreakAtEverywhereWrong)

end Rows
end Go.Proofs.Qxb6617877a

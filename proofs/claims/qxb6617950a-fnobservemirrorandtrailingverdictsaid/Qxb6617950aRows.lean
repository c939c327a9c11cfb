/-
  No cell of these rows narrows 'for every input' (looked for: loops, veiled, ifaces, maps, wideKeys, modest, calm, conditions, laid).
  DERIVED. THE GIVEN ROWS OF THIS SEAT. 2 by the template 'for every input the law returns true; each argument reads behind the call as it read before'; 0 by the template 'total and deterministic' (their statements: Qxb6617950aTotals.lean).
  GIVEN WITH THE SEED: the statements are not yours to turn. If you find one false, say at which input.
  Laid BY PROGRAM, IN A SANDBOX (cutbox-rows.mjs): the forced cells as the released guide's own fill.sh prints them over the translation 2e7ceb24172c7915… (all of the seat's roots in one cut). By AI agents, Wed Nov 11 2026. No macro, syntax, notation, axiom, sorry.
-/
import Derived.Test.Qxb6617950aChecked
import GoSem.Claim
import GoSem.ClaimJoined
import GoSem.ClaimMapViews
import Derived.JoinedTies
import Derived.KernelRfl
namespace Go.Proofs.Qxb6617950a
/- THE CELL 'sum', in the pinned program and in every row, IS THE sha256 OF THE DUMP (.gsa) THAT Qxb6617950aProg.lean LOADS. Nothing in Lean hashes anything: it is a label: what it is worth is what the hold of that sum in a sandbox is worth. -/
noncomputable def Try.pinned : Pinned := { name := "qxb6617950a", sum := "2e7ceb24172c791565647d1fd9c710212828d2e0330b46a64399f1ed92a849bf", checked := Try.checked }
namespace Rows
def none {H : Type} : Left H := { results := [], args := [] }

/-- 'zzlaws_internal_health_b1.FnObserveScriptMatchesRunModel': WHATEVER THE INPUT: true; the input reads as it did. -/
def fnObserveScriptMatchesRunModelSpec : ChangeSpec := { name := "fnObserveScriptMatchesRunModel", fn := fun _ => fun
  | [d1, d2, d3, d4, d5, d6] => { results := [.lit (.bool true)], args := [d1, d2, d3, d4, d5, d6] }
  | _ => none }
def fnObserveScriptMatchesRunModelRow : OpenClaim := { program := "qxb6617950a", sum := "2e7ceb24172c791565647d1fd9c710212828d2e0330b46a64399f1ed92a849bf", func := "example.com/quorumgate/quorumgate/zzlaws_internal_health_b1.FnObserveScriptMatchesRunModel", spec := "fnObserveScriptMatchesRunModel", apart := false }
def FnObserveScriptMatchesRunModelSaid : Prop := fnObserveScriptMatchesRunModelRow.holds Try.pinned (OpenSpec.ofChange fnObserveScriptMatchesRunModelSpec)

/-- ITS FALSE NEIGHBOUR: 'it returns false'. Refute it at one input. -/
def fnObserveScriptMatchesRunModelWrong : ChangeSpec := { name := "fnObserveScriptMatchesRunModel", fn := fun _ => fun
  | [d1, d2, d3, d4, d5, d6] => { results := [.lit (.bool false)], args := [d1, d2, d3, d4, d5, d6] }
  | _ => none }
def FnObserveScriptMatchesRunModelWrongFalsely : Prop := fnObserveScriptMatchesRunModelRow.holds Try.pinned (OpenSpec.ofChange fnObserveScriptMatchesRunModelWrong)

/-- 'zzlaws_internal_health_b1.FnObserveMirrorAndTrailingVerdict': WHATEVER THE INPUT: true; the input reads as it did. -/
def fnObserveMirrorAndTrailingVerdictSpec : ChangeSpec := { name := "fnObserveMirrorAndTrailingVerdict", fn := fun _ => fun
  | [d1, d2, d3, d4, d5, d6] => { results := [.lit (.bool true)], args := [d1, d2, d3, d4, d5, d6] }
  | _ => none }
def fnObserveMirrorAndTrailingVerdictRow : OpenClaim := { program := "qxb6617950a", sum := "2e7ceb24172c791565647d1fd9c710212828d2e0330b46a64399f1ed92a849bf", func := "example.com/quorumgate/quorumgate/zzlaws_internal_health_b1.FnObserveMirrorAndTrailingVerdict", spec := "fnObserveMirrorAndTrailingVerdict", apart := false }
def FnObserveMirrorAndTrailingVerdictSaid : Prop := fnObserveMirrorAndTrailingVerdictRow.holds Try.pinned (OpenSpec.ofChange fnObserveMirrorAndTrailingVerdictSpec)

/-- ITS FALSE NEIGHBOUR: 'it returns false'. Refute it at one input. -/
def fnObserveMirrorAndTrailingVerdictWrong : ChangeSpec := { name := "fnObserveMirrorAndTrailingVerdict", fn := fun _ => fun
  | [d1, d2, d3, d4, d5, d6] => { results := [.lit (.bool false)], args := [d1, d2, d3, d4, d5, d6] }
  | _ => none }
def FnObserveMirrorAndTrailingVerdictWrongFalsely : Prop := fnObserveMirrorAndTrailingVerdictRow.holds Try.pinned (OpenSpec.ofChange fnObserveMirrorAndTrailingVerdictWrong)

end Rows
end Go.Proofs.Qxb6617950a

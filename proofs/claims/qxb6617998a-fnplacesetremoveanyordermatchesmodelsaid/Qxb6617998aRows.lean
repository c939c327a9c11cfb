/-
  No cell of these rows narrows 'for every input' (looked for: loops, veiled, ifaces, maps, wideKeys, modest, calm, conditions, laid).
  DERIVED. THE GIVEN ROWS OF THIS SEAT. 5 by the template 'for every input the law returns true; each argument reads behind the call as it read before'; 0 by the template 'total and deterministic' (their statements: Qxb6617998aTotals.lean).
  GIVEN WITH THE SEED: the statements are not yours to turn. If you find one false, say at which input.
  Laid BY PROGRAM, IN A SANDBOX (cutbox-rows.mjs): the forced cells as the released guide's own fill.sh prints them over the translation d70746716d18116a… (all of the seat's roots in one cut). By AI agents, Wed Nov 11 2026. No macro, syntax, notation, axiom, sorry.
-/
import Derived.Test.Qxb6617998aChecked
import GoSem.Claim
import GoSem.ClaimJoined
import GoSem.ClaimMapViews
import Derived.JoinedTies
import Derived.KernelRfl
namespace Go.Proofs.Qxb6617998a
/- THE CELL 'sum', in the pinned program and in every row, IS THE sha256 OF THE DUMP (.gsa) THAT Qxb6617998aProg.lean LOADS. Nothing in Lean hashes anything: it is a label: what it is worth is what the hold of that sum in a sandbox is worth. -/
noncomputable def Try.pinned : Pinned := { name := "qxb6617998a", sum := "d70746716d18116a6810ea6a1e641c073f5305fa466821a99701fcf24781ac43", checked := Try.checked }
namespace Rows
def none {H : Type} : Left H := { results := [], args := [] }

/-- 'zzlaws_root_b1.FnPlaceSetAddAnyOrderMatchesModel': WHATEVER THE INPUT: true; the input reads as it did. -/
def fnPlaceSetAddAnyOrderMatchesModelSpec : ChangeSpec := { name := "fnPlaceSetAddAnyOrderMatchesModel", fn := fun _ => fun
  | [d1, d2, d3] => { results := [.lit (.bool true)], args := [d1, d2, d3] }
  | _ => none }
def fnPlaceSetAddAnyOrderMatchesModelRow : OpenClaim := { program := "qxb6617998a", sum := "d70746716d18116a6810ea6a1e641c073f5305fa466821a99701fcf24781ac43", func := "example.com/tierlock/tierlock/zzlaws_root_b1.FnPlaceSetAddAnyOrderMatchesModel", spec := "fnPlaceSetAddAnyOrderMatchesModel", apart := false }
def FnPlaceSetAddAnyOrderMatchesModelSaid : Prop := fnPlaceSetAddAnyOrderMatchesModelRow.holds Try.pinned (OpenSpec.ofChange fnPlaceSetAddAnyOrderMatchesModelSpec)

/-- ITS FALSE NEIGHBOUR: 'it returns false'. Refute it at one input. -/
def fnPlaceSetAddAnyOrderMatchesModelWrong : ChangeSpec := { name := "fnPlaceSetAddAnyOrderMatchesModel", fn := fun _ => fun
  | [d1, d2, d3] => { results := [.lit (.bool false)], args := [d1, d2, d3] }
  | _ => none }
def FnPlaceSetAddAnyOrderMatchesModelWrongFalsely : Prop := fnPlaceSetAddAnyOrderMatchesModelRow.holds Try.pinned (OpenSpec.ofChange fnPlaceSetAddAnyOrderMatchesModelWrong)

/-- 'zzlaws_root_b1.FnPlaceSetAddThenRemoveGivesModels': WHATEVER THE INPUT: true; the input reads as it did. -/
def fnPlaceSetAddThenRemoveGivesModelsSpec : ChangeSpec := { name := "fnPlaceSetAddThenRemoveGivesModels", fn := fun _ => fun
  | [d1, d2] => { results := [.lit (.bool true)], args := [d1, d2] }
  | _ => none }
def fnPlaceSetAddThenRemoveGivesModelsRow : OpenClaim := { program := "qxb6617998a", sum := "d70746716d18116a6810ea6a1e641c073f5305fa466821a99701fcf24781ac43", func := "example.com/tierlock/tierlock/zzlaws_root_b1.FnPlaceSetAddThenRemoveGivesModels", spec := "fnPlaceSetAddThenRemoveGivesModels", apart := false }
def FnPlaceSetAddThenRemoveGivesModelsSaid : Prop := fnPlaceSetAddThenRemoveGivesModelsRow.holds Try.pinned (OpenSpec.ofChange fnPlaceSetAddThenRemoveGivesModelsSpec)

/-- ITS FALSE NEIGHBOUR: 'it returns false'. Refute it at one input. -/
def fnPlaceSetAddThenRemoveGivesModelsWrong : ChangeSpec := { name := "fnPlaceSetAddThenRemoveGivesModels", fn := fun _ => fun
  | [d1, d2] => { results := [.lit (.bool false)], args := [d1, d2] }
  | _ => none }
def FnPlaceSetAddThenRemoveGivesModelsWrongFalsely : Prop := fnPlaceSetAddThenRemoveGivesModelsRow.holds Try.pinned (OpenSpec.ofChange fnPlaceSetAddThenRemoveGivesModelsWrong)

/-- 'zzlaws_root_b1.FnPlaceSetRemoveThenAddRestores': WHATEVER THE INPUT: true; the input reads as it did. -/
def fnPlaceSetRemoveThenAddRestoresSpec : ChangeSpec := { name := "fnPlaceSetRemoveThenAddRestores", fn := fun _ => fun
  | [d1, d2] => { results := [.lit (.bool true)], args := [d1, d2] }
  | _ => none }
def fnPlaceSetRemoveThenAddRestoresRow : OpenClaim := { program := "qxb6617998a", sum := "d70746716d18116a6810ea6a1e641c073f5305fa466821a99701fcf24781ac43", func := "example.com/tierlock/tierlock/zzlaws_root_b1.FnPlaceSetRemoveThenAddRestores", spec := "fnPlaceSetRemoveThenAddRestores", apart := false }
def FnPlaceSetRemoveThenAddRestoresSaid : Prop := fnPlaceSetRemoveThenAddRestoresRow.holds Try.pinned (OpenSpec.ofChange fnPlaceSetRemoveThenAddRestoresSpec)

/-- ITS FALSE NEIGHBOUR: 'it returns false'. Refute it at one input. -/
def fnPlaceSetRemoveThenAddRestoresWrong : ChangeSpec := { name := "fnPlaceSetRemoveThenAddRestores", fn := fun _ => fun
  | [d1, d2] => { results := [.lit (.bool false)], args := [d1, d2] }
  | _ => none }
def FnPlaceSetRemoveThenAddRestoresWrongFalsely : Prop := fnPlaceSetRemoveThenAddRestoresRow.holds Try.pinned (OpenSpec.ofChange fnPlaceSetRemoveThenAddRestoresWrong)

/-- 'zzlaws_root_b1.FnPlaceSetRemoveAnyOrderMatchesModel': WHATEVER THE INPUT: true; the input reads as it did. -/
def fnPlaceSetRemoveAnyOrderMatchesModelSpec : ChangeSpec := { name := "fnPlaceSetRemoveAnyOrderMatchesModel", fn := fun _ => fun
  | [d1, d2, d3] => { results := [.lit (.bool true)], args := [d1, d2, d3] }
  | _ => none }
def fnPlaceSetRemoveAnyOrderMatchesModelRow : OpenClaim := { program := "qxb6617998a", sum := "d70746716d18116a6810ea6a1e641c073f5305fa466821a99701fcf24781ac43", func := "example.com/tierlock/tierlock/zzlaws_root_b1.FnPlaceSetRemoveAnyOrderMatchesModel", spec := "fnPlaceSetRemoveAnyOrderMatchesModel", apart := false }
def FnPlaceSetRemoveAnyOrderMatchesModelSaid : Prop := fnPlaceSetRemoveAnyOrderMatchesModelRow.holds Try.pinned (OpenSpec.ofChange fnPlaceSetRemoveAnyOrderMatchesModelSpec)

/-- ITS FALSE NEIGHBOUR: 'it returns false'. Refute it at one input. -/
def fnPlaceSetRemoveAnyOrderMatchesModelWrong : ChangeSpec := { name := "fnPlaceSetRemoveAnyOrderMatchesModel", fn := fun _ => fun
  | [d1, d2, d3] => { results := [.lit (.bool false)], args := [d1, d2, d3] }
  | _ => none }
def FnPlaceSetRemoveAnyOrderMatchesModelWrongFalsely : Prop := fnPlaceSetRemoveAnyOrderMatchesModelRow.holds Try.pinned (OpenSpec.ofChange fnPlaceSetRemoveAnyOrderMatchesModelWrong)

/-- 'zzlaws_root_b1.FnRankAheadIsStrictTotalOrder': WHATEVER THE INPUT: true; the input reads as it did. -/
def fnRankAheadIsStrictTotalOrderSpec : ChangeSpec := { name := "fnRankAheadIsStrictTotalOrder", fn := fun _ => fun
  | [d1, d2, d3, d4, d5, d6] => { results := [.lit (.bool true)], args := [d1, d2, d3, d4, d5, d6] }
  | _ => none }
def fnRankAheadIsStrictTotalOrderRow : OpenClaim := { program := "qxb6617998a", sum := "d70746716d18116a6810ea6a1e641c073f5305fa466821a99701fcf24781ac43", func := "example.com/tierlock/tierlock/zzlaws_root_b1.FnRankAheadIsStrictTotalOrder", spec := "fnRankAheadIsStrictTotalOrder", apart := false }
def FnRankAheadIsStrictTotalOrderSaid : Prop := fnRankAheadIsStrictTotalOrderRow.holds Try.pinned (OpenSpec.ofChange fnRankAheadIsStrictTotalOrderSpec)

/-- ITS FALSE NEIGHBOUR: 'it returns false'. Refute it at one input. -/
def fnRankAheadIsStrictTotalOrderWrong : ChangeSpec := { name := "fnRankAheadIsStrictTotalOrder", fn := fun _ => fun
  | [d1, d2, d3, d4, d5, d6] => { results := [.lit (.bool false)], args := [d1, d2, d3, d4, d5, d6] }
  | _ => none }
def FnRankAheadIsStrictTotalOrderWrongFalsely : Prop := fnRankAheadIsStrictTotalOrderRow.holds Try.pinned (OpenSpec.ofChange fnRankAheadIsStrictTotalOrderWrong)

end Rows
end Go.Proofs.Qxb6617998a

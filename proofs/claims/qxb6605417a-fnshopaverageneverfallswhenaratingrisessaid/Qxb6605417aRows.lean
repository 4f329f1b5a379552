/-
  No cell of these rows narrows 'for every input' (looked for: loops, veiled, ifaces, maps, wideKeys, modest, calm, conditions, laid).
  DERIVED. THE GIVEN ROWS OF THIS SEAT. 3 by the template 'for every input the law returns true; each argument reads behind the call as it read before'; 0 by the template 'total and deterministic' (their statements: Qxb6605417aTotals.lean).
  GIVEN WITH THE SEED: the statements are not yours to turn. If you find one false, say at which input.
  Laid BY PROGRAM, IN A SANDBOX (cutbox-rows.mjs): the forced cells as the released guide's own fill.sh prints them over the translation 7ee25ef44d8cf75d… (all of the seat's roots in one cut). By AI agents, Wed Nov 11 2026. No macro, syntax, notation, axiom, sorry.
-/
import Derived.Test.Qxb6605417aChecked
import GoSem.Claim
import GoSem.ClaimJoined
import GoSem.ClaimMapViews
import Derived.JoinedTies
import Derived.KernelRfl
namespace Go.Proofs.Qxb6605417a
/- THE CELL 'sum', in the pinned program and in every row, IS THE sha256 OF THE DUMP (.gsa) THAT Qxb6605417aProg.lean LOADS. Nothing in Lean hashes anything: it is a label: what it is worth is what the hold of that sum in a sandbox is worth. -/
noncomputable def Try.pinned : Pinned := { name := "qxb6605417a", sum := "7ee25ef44d8cf75dda83ed73746b6f130ae24cedc5140e21b1f2656b3532974c", checked := Try.checked }
namespace Rows
def none {H : Type} : Left H := { results := [], args := [] }

/-- 'zzlaws_internal_api_b1.FnPagePositionPlacesThePage': WHATEVER THE INPUT: true; the input reads as it did. -/
def fnPagePositionPlacesThePageSpec : ChangeSpec := { name := "fnPagePositionPlacesThePage", fn := fun _ => fun
  | [d1, d2, d3] => { results := [.lit (.bool true)], args := [d1, d2, d3] }
  | _ => none }
def fnPagePositionPlacesThePageRow : OpenClaim := { program := "qxb6605417a", sum := "7ee25ef44d8cf75dda83ed73746b6f130ae24cedc5140e21b1f2656b3532974c", func := "example.com/stallwright/stallwright/zzlaws_internal_api_b1.FnPagePositionPlacesThePage", spec := "fnPagePositionPlacesThePage", apart := false }
def FnPagePositionPlacesThePageSaid : Prop := fnPagePositionPlacesThePageRow.holds Try.pinned (OpenSpec.ofChange fnPagePositionPlacesThePageSpec)

/-- ITS FALSE NEIGHBOUR: 'it returns false'. Refute it at one input. -/
def fnPagePositionPlacesThePageWrong : ChangeSpec := { name := "fnPagePositionPlacesThePage", fn := fun _ => fun
  | [d1, d2, d3] => { results := [.lit (.bool false)], args := [d1, d2, d3] }
  | _ => none }
def FnPagePositionPlacesThePageWrongFalsely : Prop := fnPagePositionPlacesThePageRow.holds Try.pinned (OpenSpec.ofChange fnPagePositionPlacesThePageWrong)

/-- 'zzlaws_internal_api_b1.FnShopFiguresMatchTheirFeedback': WHATEVER THE INPUT: true; the input reads as it did. -/
def fnShopFiguresMatchTheirFeedbackSpec : ChangeSpec := { name := "fnShopFiguresMatchTheirFeedback", fn := fun _ => fun
  | [d1, d2, d3, d4, d5, d6, d7] => { results := [.lit (.bool true)], args := [d1, d2, d3, d4, d5, d6, d7] }
  | _ => none }
def fnShopFiguresMatchTheirFeedbackRow : OpenClaim := { program := "qxb6605417a", sum := "7ee25ef44d8cf75dda83ed73746b6f130ae24cedc5140e21b1f2656b3532974c", func := "example.com/stallwright/stallwright/zzlaws_internal_api_b1.FnShopFiguresMatchTheirFeedback", spec := "fnShopFiguresMatchTheirFeedback", apart := false }
def FnShopFiguresMatchTheirFeedbackSaid : Prop := fnShopFiguresMatchTheirFeedbackRow.holds Try.pinned (OpenSpec.ofChange fnShopFiguresMatchTheirFeedbackSpec)

/-- ITS FALSE NEIGHBOUR: 'it returns false'. Refute it at one input. -/
def fnShopFiguresMatchTheirFeedbackWrong : ChangeSpec := { name := "fnShopFiguresMatchTheirFeedback", fn := fun _ => fun
  | [d1, d2, d3, d4, d5, d6, d7] => { results := [.lit (.bool false)], args := [d1, d2, d3, d4, d5, d6, d7] }
  | _ => none }
def FnShopFiguresMatchTheirFeedbackWrongFalsely : Prop := fnShopFiguresMatchTheirFeedbackRow.holds Try.pinned (OpenSpec.ofChange fnShopFiguresMatchTheirFeedbackWrong)

/-- 'zzlaws_internal_api_b1.FnShopAverageNeverFallsWhenARatingRises': WHATEVER THE INPUT: true; the input reads as it did. -/
def fnShopAverageNeverFallsWhenARatingRisesSpec : ChangeSpec := { name := "fnShopAverageNeverFallsWhenARatingRises", fn := fun _ => fun
  | [d1, d2] => { results := [.lit (.bool true)], args := [d1, d2] }
  | _ => none }
def fnShopAverageNeverFallsWhenARatingRisesRow : OpenClaim := { program := "qxb6605417a", sum := "7ee25ef44d8cf75dda83ed73746b6f130ae24cedc5140e21b1f2656b3532974c", func := "example.com/stallwright/stallwright/zzlaws_internal_api_b1.FnShopAverageNeverFallsWhenARatingRises", spec := "fnShopAverageNeverFallsWhenARatingRises", apart := false }
def FnShopAverageNeverFallsWhenARatingRisesSaid : Prop := fnShopAverageNeverFallsWhenARatingRisesRow.holds Try.pinned (OpenSpec.ofChange fnShopAverageNeverFallsWhenARatingRisesSpec)

/-- ITS FALSE NEIGHBOUR: 'it returns false'. Refute it at one input. -/
def fnShopAverageNeverFallsWhenARatingRisesWrong : ChangeSpec := { name := "fnShopAverageNeverFallsWhenARatingRises", fn := fun _ => fun
  | [d1, d2] => { results := [.lit (.bool false)], args := [d1, d2] }
  | _ => none }
def FnShopAverageNeverFallsWhenARatingRisesWrongFalsely : Prop := fnShopAverageNeverFallsWhenARatingRisesRow.holds Try.pinned (OpenSpec.ofChange fnShopAverageNeverFallsWhenARatingRisesWrong)

end Rows
end Go.Proofs.Qxb6605417a

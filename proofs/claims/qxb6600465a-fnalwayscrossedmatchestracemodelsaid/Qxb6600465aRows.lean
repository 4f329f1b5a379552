/-
  No cell of these rows narrows 'for every input' (looked for: loops, veiled, ifaces, maps, wideKeys, modest, calm, conditions, laid).
  DERIVED. THE GIVEN ROWS OF THIS SEAT. 2 by the template 'for every input the law returns true; each argument reads behind the call as it read before'; 0 by the template 'total and deterministic' (their statements: Qxb6600465aTotals.lean).
  GIVEN WITH THE SEED: the statements are not yours to turn. If you find one false, say at which input.
  Laid BY PROGRAM, IN A SANDBOX (cutbox-rows.mjs): the forced cells as the released guide's own fill.sh prints them over the translation 950df5e0b71a33e1… (all of the seat's roots in one cut). By AI agents, Wed Nov 11 2026. No macro, syntax, notation, axiom, sorry.
-/
import Derived.Test.Qxb6600465aChecked
import GoSem.Claim
import GoSem.ClaimJoined
import GoSem.ClaimMapViews
import Derived.JoinedTies
import Derived.KernelRfl
namespace Go.Proofs.Qxb6600465a
/- THE CELL 'sum', in the pinned program and in every row, IS THE sha256 OF THE DUMP (.gsa) THAT Qxb6600465aProg.lean LOADS. Nothing in Lean hashes anything: it is a label: what it is worth is what the hold of that sum in a sandbox is worth. -/
noncomputable def Try.pinned : Pinned := { name := "qxb6600465a", sum := "950df5e0b71a33e1314763674e55022359adddd48b3446fccbad7c78eefdd723", checked := Try.checked }
namespace Rows
def none {H : Type} : Left H := { results := [], args := [] }

/-- 'zzlaws_internal_ere_b1.FnAlwaysCrossedMirrorSwapsAnchors': WHATEVER THE INPUT: true; the input reads as it did. -/
def fnAlwaysCrossedMirrorSwapsAnchorsSpec : ChangeSpec := { name := "fnAlwaysCrossedMirrorSwapsAnchors", fn := fun _ => fun
  | [d] => { results := [.lit (.bool true)], args := [d] }
  | _ => none }
def fnAlwaysCrossedMirrorSwapsAnchorsRow : OpenClaim := { program := "qxb6600465a", sum := "950df5e0b71a33e1314763674e55022359adddd48b3446fccbad7c78eefdd723", func := "example.com/delegant/delegant/zzlaws_internal_ere_b1.FnAlwaysCrossedMirrorSwapsAnchors", spec := "fnAlwaysCrossedMirrorSwapsAnchors", recurses := true, apart := false }
def FnAlwaysCrossedMirrorSwapsAnchorsSaid : Prop := fnAlwaysCrossedMirrorSwapsAnchorsRow.holds Try.pinned (OpenSpec.ofChange fnAlwaysCrossedMirrorSwapsAnchorsSpec)

/-- ITS FALSE NEIGHBOUR: 'it returns false'. Refute it at one input. -/
def fnAlwaysCrossedMirrorSwapsAnchorsWrong : ChangeSpec := { name := "fnAlwaysCrossedMirrorSwapsAnchors", fn := fun _ => fun
  | [d] => { results := [.lit (.bool false)], args := [d] }
  | _ => none }
def FnAlwaysCrossedMirrorSwapsAnchorsWrongFalsely : Prop := fnAlwaysCrossedMirrorSwapsAnchorsRow.holds Try.pinned (OpenSpec.ofChange fnAlwaysCrossedMirrorSwapsAnchorsWrong)

/-- 'zzlaws_internal_ere_b1.FnAlwaysCrossedMatchesTraceModel': WHATEVER THE INPUT: true; the input reads as it did. -/
def fnAlwaysCrossedMatchesTraceModelSpec : ChangeSpec := { name := "fnAlwaysCrossedMatchesTraceModel", fn := fun _ => fun
  | [d] => { results := [.lit (.bool true)], args := [d] }
  | _ => none }
def fnAlwaysCrossedMatchesTraceModelRow : OpenClaim := { program := "qxb6600465a", sum := "950df5e0b71a33e1314763674e55022359adddd48b3446fccbad7c78eefdd723", func := "example.com/delegant/delegant/zzlaws_internal_ere_b1.FnAlwaysCrossedMatchesTraceModel", spec := "fnAlwaysCrossedMatchesTraceModel", recurses := true, apart := false }
def FnAlwaysCrossedMatchesTraceModelSaid : Prop := fnAlwaysCrossedMatchesTraceModelRow.holds Try.pinned (OpenSpec.ofChange fnAlwaysCrossedMatchesTraceModelSpec)

/-- ITS FALSE NEIGHBOUR: 'it returns false'. Refute it at one input. -/
def fnAlwaysCrossedMatchesTraceModelWrong : ChangeSpec := { name := "fnAlwaysCrossedMatchesTraceModel", fn := fun _ => fun
  | [d] => { results := [.lit (.bool false)], args := [d] }
  | _ => none }
def FnAlwaysCrossedMatchesTraceModelWrongFalsely : Prop := fnAlwaysCrossedMatchesTraceModelRow.holds Try.pinned (OpenSpec.ofChange fnAlwaysCrossedMatchesTraceModelWrong)

end Rows
end Go.Proofs.Qxb6600465a

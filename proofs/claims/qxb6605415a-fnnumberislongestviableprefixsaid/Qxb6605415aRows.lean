/-
  No cell of these rows narrows 'for every input' (looked for: loops, veiled, ifaces, maps, wideKeys, modest, calm, conditions, laid).
  DERIVED. THE GIVEN ROWS OF THIS SEAT. 3 by the template 'for every input the law returns true; each argument reads behind the call as it read before'; 0 by the template 'total and deterministic' (their statements: Qxb6605415aTotals.lean).
  GIVEN WITH THE SEED: the statements are not yours to turn. If you find one false, say at which input.
  Laid BY PROGRAM, IN A SANDBOX (cutbox-rows.mjs): the forced cells as the released guide's own fill.sh prints them over the translation 1fe3d48cbbe98bf5… (all of the seat's roots in one cut). By AI agents, Wed Nov 11 2026. No macro, syntax, notation, axiom, sorry.
-/
import Derived.Test.Qxb6605415aChecked
import GoSem.Claim
import GoSem.ClaimJoined
import GoSem.ClaimMapViews
import Derived.JoinedTies
import Derived.KernelRfl
namespace Go.Proofs.Qxb6605415a
/- THE CELL 'sum', in the pinned program and in every row, IS THE sha256 OF THE DUMP (.gsa) THAT Qxb6605415aProg.lean LOADS. Nothing in Lean hashes anything: it is a label: what it is worth is what the hold of that sum in a sandbox is worth. -/
noncomputable def Try.pinned : Pinned := { name := "qxb6605415a", sum := "1fe3d48cbbe98bf5dfa2365a3d737989b0ed707dc9fc12be605b1d65d716cb63", checked := Try.checked }
namespace Rows
def none {H : Type} : Left H := { results := [], args := [] }

/-- 'zzlaws_root_b1.FnNumberIsLongestViablePrefix': WHATEVER THE INPUT: true; the input reads as it did. -/
def fnNumberIsLongestViablePrefixSpec : ChangeSpec := { name := "fnNumberIsLongestViablePrefix", fn := fun _ => fun
  | [d1, d2] => { results := [.lit (.bool true)], args := [d1, d2] }
  | _ => none }
def fnNumberIsLongestViablePrefixRow : OpenClaim := { program := "qxb6605415a", sum := "1fe3d48cbbe98bf5dfa2365a3d737989b0ed707dc9fc12be605b1d65d716cb63", func := "example.com/quorate/quorate/zzlaws_root_b1.FnNumberIsLongestViablePrefix", spec := "fnNumberIsLongestViablePrefix", apart := false }
def FnNumberIsLongestViablePrefixSaid : Prop := fnNumberIsLongestViablePrefixRow.holds Try.pinned (OpenSpec.ofChange fnNumberIsLongestViablePrefixSpec)

/-- ITS FALSE NEIGHBOUR: 'it returns false'. Refute it at one input. -/
def fnNumberIsLongestViablePrefixWrong : ChangeSpec := { name := "fnNumberIsLongestViablePrefix", fn := fun _ => fun
  | [d1, d2] => { results := [.lit (.bool false)], args := [d1, d2] }
  | _ => none }
def FnNumberIsLongestViablePrefixWrongFalsely : Prop := fnNumberIsLongestViablePrefixRow.holds Try.pinned (OpenSpec.ofChange fnNumberIsLongestViablePrefixWrong)

/-- 'zzlaws_root_b1.FnNumberReadsWrittenNumber': WHATEVER THE INPUT: true; the input reads as it did. -/
def fnNumberReadsWrittenNumberSpec : ChangeSpec := { name := "fnNumberReadsWrittenNumber", fn := fun _ => fun
  | [d1, d2, d3, d4, d5, d6] => { results := [.lit (.bool true)], args := [d1, d2, d3, d4, d5, d6] }
  | _ => none }
def fnNumberReadsWrittenNumberRow : OpenClaim := { program := "qxb6605415a", sum := "1fe3d48cbbe98bf5dfa2365a3d737989b0ed707dc9fc12be605b1d65d716cb63", func := "example.com/quorate/quorate/zzlaws_root_b1.FnNumberReadsWrittenNumber", spec := "fnNumberReadsWrittenNumber", apart := false }
def FnNumberReadsWrittenNumberSaid : Prop := fnNumberReadsWrittenNumberRow.holds Try.pinned (OpenSpec.ofChange fnNumberReadsWrittenNumberSpec)

/-- ITS FALSE NEIGHBOUR: 'it returns false'. Refute it at one input. -/
def fnNumberReadsWrittenNumberWrong : ChangeSpec := { name := "fnNumberReadsWrittenNumber", fn := fun _ => fun
  | [d1, d2, d3, d4, d5, d6] => { results := [.lit (.bool false)], args := [d1, d2, d3, d4, d5, d6] }
  | _ => none }
def FnNumberReadsWrittenNumberWrongFalsely : Prop := fnNumberReadsWrittenNumberRow.holds Try.pinned (OpenSpec.ofChange fnNumberReadsWrittenNumberWrong)

/-- 'zzlaws_root_b1.FnPrepareStanceOwnBallots': WHATEVER THE INPUT: true; the input reads as it did. -/
def fnPrepareStanceOwnBallotsSpec : ChangeSpec := { name := "fnPrepareStanceOwnBallots", fn := fun _ => fun
  | [d1, d2, d3, d4, d5, d6, d7, d8, d9, d10, d11] => { results := [.lit (.bool true)], args := [d1, d2, d3, d4, d5, d6, d7, d8, d9, d10, d11] }
  | _ => none }
def fnPrepareStanceOwnBallotsRow : OpenClaim := { program := "qxb6605415a", sum := "1fe3d48cbbe98bf5dfa2365a3d737989b0ed707dc9fc12be605b1d65d716cb63", func := "example.com/quorate/quorate/zzlaws_root_b1.FnPrepareStanceOwnBallots", spec := "fnPrepareStanceOwnBallots", apart := false }
def FnPrepareStanceOwnBallotsSaid : Prop := fnPrepareStanceOwnBallotsRow.holds Try.pinned (OpenSpec.ofChange fnPrepareStanceOwnBallotsSpec)

/-- ITS FALSE NEIGHBOUR: 'it returns false'. Refute it at one input. -/
def fnPrepareStanceOwnBallotsWrong : ChangeSpec := { name := "fnPrepareStanceOwnBallots", fn := fun _ => fun
  | [d1, d2, d3, d4, d5, d6, d7, d8, d9, d10, d11] => { results := [.lit (.bool false)], args := [d1, d2, d3, d4, d5, d6, d7, d8, d9, d10, d11] }
  | _ => none }
def FnPrepareStanceOwnBallotsWrongFalsely : Prop := fnPrepareStanceOwnBallotsRow.holds Try.pinned (OpenSpec.ofChange fnPrepareStanceOwnBallotsWrong)

end Rows
end Go.Proofs.Qxb6605415a

/-
  AN ARGUMENT OF TYPE [5]int, opened and shut again. After the guide's IdRangearrayProofs.lean (an array of four), over OpenShut's law on arrays of whatever length.
-/
import Derived.Test.Qxb6605417aRows
import Derived.WalkKit
import Derived.ProofKit
import Derived.OpenShut
namespace Go.Proofs.Qxb6605417a.Arr
open Go.ChangeShapes Go.WideShapes Go.ChangeAt Go.RowKit

theorem cells25 : Try.prog.cellsOf 25 = 5 := by kernel_rfl
theorem cells3 : Try.prog.cellsOf 3 = 1 := by kernel_rfl

theorem list5 {α : Type} (l : List α) (h : (⟨l⟩ : Array α).size = 5) : ∃ a b c d e, l = [a, b, c, d, e] := by
  match l, h with
  | [a, b, c, d, e], _ => exact ⟨a, b, c, d, e, rfl⟩
theorem list5' {α : Type} (l : List α) (h : l.length = 5) : ∃ a b c d e, l = [a, b, c, d, e] := by
  match l, h with
  | [a, b, c, d, e], _ => exact ⟨a, b, c, d, e, rfl⟩

theorem open_arr5 {H : Type} {enc : TypeId × Value → H} {W : World} {r : Reach} {base b0 : Nat} {spare : Nat → Bool} {held : Bool} {v : Value} {d : DataW H} {p : List MemPlace}
    (hv : Value.okWide Try.prog W r b0 25 v) (h : DataW.Trod enc Try.prog W base spare held 25 v d p) :
    ∃ r0 r1 r2 r3 r4 : Int, v = .agg #[.int .i64 r0, .int .i64 r1, .int .i64 r2, .int .i64 r3, .int .i64 r4] ∧ d = .agg [.lit (.int .i64 r0), .lit (.int .i64 r1), .lit (.int .i64 r2), .lit (.int .i64 r3), .lit (.int .i64 r4)] ∧ p = [] ∧
      (Lit.int .i64 r0).wf = true ∧ (Lit.int .i64 r1).wf = true ∧ (Lit.int .i64 r2).wf = true ∧ (Lit.int .i64 r3).wf = true ∧ (Lit.int .i64 r4).wf = true := by
  obtain ⟨cs, rfl, hsz, _⟩ : ∃ cs, v = .agg cs ∧ cs.size = Try.prog.cellsOf 25 ∧ Row.okWide Try.prog W r b0 25 cs := by
    simpa [Value.okWide, Try.underlying25] using hv
  rw [cells25] at hsz
  obtain ⟨l⟩ := cs
  obtain ⟨c0, c1, c2, c3, c4, rfl⟩ := list5 l hsz
  obtain ⟨fuel, hf⟩ := h
  obtain ⟨xs, m, _, hx, _, hlen, hget⟩ := DataW.trod_array Try.underlying25 hf
  obtain ⟨y0, y1, y2, y3, y4, rfl⟩ := list5' xs hlen
  have t0 := hget 0 (by omega)
  have t1 := hget 1 (by omega)
  have t2 := hget 2 (by omega)
  have t3 := hget 3 (by omega)
  have t4 := hget 4 (by omega)
  clear hget
  simp [cells3, Value.cells] at t0 t1 t2 t3 t4
  obtain ⟨x0, e0, rfl, w0⟩ := DataW.trod_int Try.underlying3 t0
  obtain ⟨x1, e1, rfl, w1⟩ := DataW.trod_int Try.underlying3 t1
  obtain ⟨x2, e2, rfl, w2⟩ := DataW.trod_int Try.underlying3 t2
  obtain ⟨x3, e3, rfl, w3⟩ := DataW.trod_int Try.underlying3 t3
  obtain ⟨x4, e4, rfl, w4⟩ := DataW.trod_int Try.underlying3 t4
  simp at e0 e1 e2 e3 e4
  subst e0 e1 e2 e3 e4
  simp at hx
  exact ⟨x0, x1, x2, x3, x4, rfl, hx.1, hx.2, w0, w1, w2, w3, w4⟩

theorem shut_arr5 {H : Type} {enc : TypeId × Value → H} {W : World} {base : Nat} {spare : Nat → Bool} {held : Bool} {r0 r1 r2 r3 r4 : Int}
    (w0 : (Lit.int .i64 r0).wf = true) (w1 : (Lit.int .i64 r1).wf = true) (w2 : (Lit.int .i64 r2).wf = true) (w3 : (Lit.int .i64 r3).wf = true) (w4 : (Lit.int .i64 r4).wf = true) :
    DataW.Trod enc Try.prog W base spare held 25 (.agg #[.int .i64 r0, .int .i64 r1, .int .i64 r2, .int .i64 r3, .int .i64 r4]) (.agg [.lit (.int .i64 r0), .lit (.int .i64 r1), .lit (.int .i64 r2), .lit (.int .i64 r3), .lit (.int .i64 r4)]) [] :=
  ⟨2, by simp [DataW.trod, Value.cells, Try.underlying25, Try.underlying3, cells25, cells3, w0, w1, w2, w3, w4, show List.range 5 = [0, 1, 2, 3, 4] from rfl]⟩
end Go.Proofs.Qxb6605417a.Arr

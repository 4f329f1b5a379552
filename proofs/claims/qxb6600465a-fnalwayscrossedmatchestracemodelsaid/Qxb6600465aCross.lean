import Derived.Test.Qxb6600465aEre
namespace Go.Proofs.Qxb6600465a.Ere
open Go.RowKit

/-- A call that answers a pair, and leaves the old blocks alone. -/
def Pairs (x y : Bool) (w w' : World) (e : Ending) : Prop := e = .returned (.agg #[.bool x, .bool y]) ∧ Below w.heap.size w w'

set_option maxHeartbeats 2000000 in
theorem or_any (a b c d : Bool) (w : World) : Calls Try.prog 15 #[.agg #[.bool a, .bool b], .agg #[.bool c, .bool d]] w fun e w' => Pairs (a || c) (b || d) w w' e := by
  generalize hx : (a || c) = x
  generalize hy : (b || d) = y
  cases a <;> cases b
  all_goals
    simp only [Bool.false_or, Bool.true_or] at hx hy
    subst hx
    subst hy
    go_enter Try.func15, Try.ntmps15
    go_wp2
    refine bodyPost_ret (v := .agg #[.bool _, .bool _]) (by simp [results, Try.results15, go_sem]) rfl ⟨rfl, ?_⟩
    repeat (first | exact Below.refl _ _ | apply Below.drew | (refine Below.setCell ?_ (by simp) _) | (refine Below.alloc ?_ (by simp; try omega) _))

set_option maxHeartbeats 2000000 in
theorem and_any (a b c d : Bool) (w : World) : Calls Try.prog 16 #[.agg #[.bool a, .bool b], .agg #[.bool c, .bool d]] w fun e w' => Pairs (a && c) (b && d) w w' e := by
  generalize hx : (a && c) = x
  generalize hy : (b && d) = y
  cases a <;> cases b
  all_goals
    simp only [Bool.false_and, Bool.true_and] at hx hy
    subst hx
    subst hy
    go_enter Try.func16, Try.ntmps16
    go_wp2
    refine bodyPost_ret (v := .agg #[.bool _, .bool _]) (by simp [results, Try.results16, go_sem]) rfl ⟨rfl, ?_⟩
    repeat (first | exact Below.refl _ _ | apply Below.drew | (refine Below.setCell ?_ (by simp) _) | (refine Below.alloc ?_ (by simp; try omega) _))

/-- Two flags in a block of their own. -/
structure Two (w : World) (B : Nat) (x y : Bool) : Prop where
  c0 : w.cell? ⟨B, 0, none⟩ = some (.bool x)
  c1 : w.cell? ⟨B, 1, none⟩ = some (.bool y)
  f0 : w.frozen? ⟨B, 0, none⟩ = false
  f1 : w.frozen? ⟨B, 1, none⟩ = false
theorem two_below {w w' : World} {B L : Nat} {x y : Bool} (h : Two w B x y) (hb : Below L w w') (hB : B < L) : Two w' B x y :=
  ⟨by rw [hb.cell (p := ⟨B, 0, none⟩) hB]; exact h.c0, by rw [hb.cell (p := ⟨B, 1, none⟩) hB]; exact h.c1, by rw [hb.frozen (p := ⟨B, 0, none⟩) hB]; exact h.f0, by rw [hb.frozen (p := ⟨B, 1, none⟩) hB]; exact h.f1⟩
theorem two_set {w : World} {B : Nat} {x y : Bool} (h : Two w B x y) (x' y' : Bool) : Two ((w.setCell ⟨B, 0, none⟩ (.bool x')).setCell ⟨B, 1, none⟩ (.bool y')) B x' y' := by
  have n01 : (⟨B, 1, none⟩ : Addr) ≠ ⟨B, 0, none⟩ := by simp
  refine ⟨?_, ?_, ?_, ?_⟩
  · rw [World.cell?_setCell_other _ _ _ _ n01]; exact World.cell?_setCell_same _ _ _ h.c0
  · exact World.cell?_setCell_same _ _ _ (by rw [World.cell?_setCell_other _ _ _ _ n01.symm]; exact h.c1)
  · rw [World.frozen?_setCell, World.frozen?_setCell]; exact h.f0
  · rw [World.frozen?_setCell, World.frozen?_setCell]; exact h.f1
theorem two_new (w : World) (x y : Bool) (t : Nat) : Two (w.alloc (.cells #[.bool x, .bool y] t)) w.heap.size x y :=
  ⟨by simp [go_sem], by simp [go_sem], by simp [go_sem], by simp [go_sem]⟩

/-- What a call of 'alwaysCrossed' at the depth n answers. -/
def CrossAt (d : List Int) (n : Nat) : Prop := ∀ pos g lo hi (w : World), hi ≤ w.heap.size → Tree NdE d w n lo hi g pos →
    Calls Try.prog 12 #[.pointer (some ⟨g, 0, none⟩)] w fun e w' => Pairs (cr d 2 n pos) (cr d 3 n pos) w w' e

set_option maxHeartbeats 4000000 in
theorem cross_leaf (d : List Int) (n pos g : Nat) (w : World) (hglt : g < w.heap.size) (K : Nat) (h0 : w.cell? ⟨g, 0, none⟩ = some (.int .i64 (K : Int))) (hk : K = 0 ∨ K = 1 ∨ K = 2 ∨ K = 3 ∨ K = 8) (hx : cr d 2 n pos = decide (K = 2)) (hy : cr d 3 n pos = decide (K = 3)) :
    Calls Try.prog 12 #[.pointer (some ⟨g, 0, none⟩)] w fun e w' => Pairs (cr d 2 n pos) (cr d 3 n pos) w w' e := by
  rw [hx, hy]
  clear hx hy
  rcases hk with rfl | rfl | rfl | rfl | rfl
  all_goals
    go_enter Try.func12, Try.ntmps12
    go_wp2_with fail
    refine bodyPost_ret (v := .agg #[.bool _, .bool _]) (by simp [results, Try.results12, go_sem]) rfl ⟨rfl, ?_⟩
    repeat (first | exact Below.refl _ _ | apply Below.drew | (refine Below.setCell ?_ (by simp) _) | (refine Below.alloc ?_ (by simp; try omega) _))
end Go.Proofs.Qxb6600465a.Ere

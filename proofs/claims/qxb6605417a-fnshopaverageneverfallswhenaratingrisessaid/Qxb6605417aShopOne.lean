import Derived.Test.Qxb6605417aRows
import Derived.WalkKit
import Derived.WalkSpells
import Derived.WalkLawsBesides
import Derived.Outline
import Derived.Handy
import Derived.Deep.QuietTactic
import Derived.BigQuiet
import Derived.RowKit3
import Derived.Deep.DeepCutAuto
import Derived.Deep.RegionHeld3
namespace Go.Proofs.Qxb6605417a.Rise
open Go.RowKit

/-- A count that the law lets in, or one more. -/
def Ok (r : Int) : Prop := 0 ≤ r ∧ r ≤ 9223372036854776

theorem ok0 : Ok 0 := ⟨by decide, by decide⟩
theorem gtrans {a b c : World} (h1 : Grown a b) (h2 : Grown b c) : Grown a c :=
  ⟨World.keptBut_trans h1.1 h2.1, fun x => (h2.2.1 x).trans (h1.2.1 x), Nat.le_trans h1.2.2 h2.2.2⟩
theorem ret_int {k : IntKind} {a b : Int} (h : a = b) : Ending.returned (.int k a) = .returned (.int k b) := by rw [h]

set_option maxRecDepth 100000 in
theorem total_any (r0 r1 r2 r3 r4 x1 x2 x3 x4 : Int) (h0 : Ok r0) (h1 : Ok r1) (h2 : Ok r2) (h3 : Ok r3) (h4 : Ok r4) (w : World) :
    Calls Try.prog 10 #[.agg #[.int .i64 r0, .int .i64 r1, .int .i64 r2, .int .i64 r3, .int .i64 r4, .int .i64 x1, .int .i64 x2, .int .i64 x3, .int .i64 x4]] w fun e w' =>
      e = .returned (.int .i64 (r0 + r1 + r2 + r3 + r4)) ∧ ∃ c : Array Value, w' = w.alloc (.cells c 40) := by
  obtain ⟨a0, b0⟩ := h0; obtain ⟨a1, b1⟩ := h1; obtain ⟨a2, b2⟩ := h2; obtain ⟨a3, b3⟩ := h3; obtain ⟨a4, b4⟩ := h4
  have i0 : ∀ w : World, (Instr.index 25 (.agg #[.int .i64 r0, .int .i64 r1, .int .i64 r2, .int .i64 r3, .int .i64 r4]) (.int .i64 0)).run Try.prog w = .ok (.int .i64 r0) w := fun _ => by kernel_rfl
  have i1 : ∀ w : World, (Instr.index 25 (.agg #[.int .i64 r0, .int .i64 r1, .int .i64 r2, .int .i64 r3, .int .i64 r4]) (.int .i64 1)).run Try.prog w = .ok (.int .i64 r1) w := fun _ => by kernel_rfl
  have i2 : ∀ w : World, (Instr.index 25 (.agg #[.int .i64 r0, .int .i64 r1, .int .i64 r2, .int .i64 r3, .int .i64 r4]) (.int .i64 2)).run Try.prog w = .ok (.int .i64 r2) w := fun _ => by kernel_rfl
  have i3 : ∀ w : World, (Instr.index 25 (.agg #[.int .i64 r0, .int .i64 r1, .int .i64 r2, .int .i64 r3, .int .i64 r4]) (.int .i64 3)).run Try.prog w = .ok (.int .i64 r3) w := fun _ => by kernel_rfl
  have i4 : ∀ w : World, (Instr.index 25 (.agg #[.int .i64 r0, .int .i64 r1, .int .i64 r2, .int .i64 r3, .int .i64 r4]) (.int .i64 4)).run Try.prog w = .ok (.int .i64 r4) w := fun _ => by kernel_rfl
  go_enter Try.func10, Try.ntmps10
  go_wp2
  go_rounds 6
  go_ret
  exact ⟨rfl, _, rfl⟩

/-- The stars' weight; the count. -/
def wei (r0 r1 r2 r3 r4 : Int) : Int := r0 + 2 * r1 + 3 * r2 + 4 * r3 + 5 * r4

set_option maxRecDepth 100000 in
theorem avg_any (r0 r1 r2 r3 r4 x1 x2 x3 x4 : Int) (h0 : Ok r0) (h1 : Ok r1) (h2 : Ok r2) (h3 : Ok r3) (h4 : Ok r4) (hp : 0 < r0 + r1 + r2 + r3 + r4) (w : World) :
    Calls Try.prog 11 #[.agg #[.int .i64 r0, .int .i64 r1, .int .i64 r2, .int .i64 r3, .int .i64 r4, .int .i64 x1, .int .i64 x2, .int .i64 x3, .int .i64 x4]] w fun e w' =>
      e = .returned (.int .i64 ((20 * wei r0 r1 r2 r3 r4 + (r0 + r1 + r2 + r3 + r4)) / (2 * (r0 + r1 + r2 + r3 + r4)))) ∧ ∃ c : Array Value, w' = w.alloc (.cells c 40) := by
  obtain ⟨a0, b0⟩ := h0; obtain ⟨a1, b1⟩ := h1; obtain ⟨a2, b2⟩ := h2; obtain ⟨a3, b3⟩ := h3; obtain ⟨a4, b4⟩ := h4
  have i0 : ∀ w : World, (Instr.index 25 (.agg #[.int .i64 r0, .int .i64 r1, .int .i64 r2, .int .i64 r3, .int .i64 r4]) (.int .i64 0)).run Try.prog w = .ok (.int .i64 r0) w := fun _ => by kernel_rfl
  have i1 : ∀ w : World, (Instr.index 25 (.agg #[.int .i64 r0, .int .i64 r1, .int .i64 r2, .int .i64 r3, .int .i64 r4]) (.int .i64 1)).run Try.prog w = .ok (.int .i64 r1) w := fun _ => by kernel_rfl
  have i2 : ∀ w : World, (Instr.index 25 (.agg #[.int .i64 r0, .int .i64 r1, .int .i64 r2, .int .i64 r3, .int .i64 r4]) (.int .i64 2)).run Try.prog w = .ok (.int .i64 r2) w := fun _ => by kernel_rfl
  have i3 : ∀ w : World, (Instr.index 25 (.agg #[.int .i64 r0, .int .i64 r1, .int .i64 r2, .int .i64 r3, .int .i64 r4]) (.int .i64 3)).run Try.prog w = .ok (.int .i64 r3) w := fun _ => by kernel_rfl
  have i4 : ∀ w : World, (Instr.index 25 (.agg #[.int .i64 r0, .int .i64 r1, .int .i64 r2, .int .i64 r3, .int .i64 r4]) (.int .i64 4)).run Try.prog w = .ok (.int .i64 r4) w := fun _ => by kernel_rfl
  go_enter Try.func11, Try.ntmps11
  go_wp2
  go_rounds 6
  go_ret
  exact ⟨ret_int (by unfold wei; rfl), _, rfl⟩

set_option maxRecDepth 100000 in
set_option maxHeartbeats 400000 in
theorem new_some (r0 r1 r2 r3 r4 x1 x2 x3 x4 s : Int) (b : Bool) (h0 : Ok r0) (h1 : Ok r1) (h2 : Ok r2) (h3 : Ok r3) (h4 : Ok r4) (hp : 0 < r0 + r1 + r2 + r3 + r4) (w : World) :
    Calls Try.prog 9 #[.agg #[.int .i64 r0, .int .i64 r1, .int .i64 r2, .int .i64 r3, .int .i64 r4, .int .i64 x1, .int .i64 x2, .int .i64 x3, .int .i64 x4], .agg #[.int .i64 s, .bool b]] w fun e w' =>
      ∃ g : Nat, e = .returned (.agg #[.pointer (some ⟨g, 0, none⟩), .int .i64 (r0 + r1 + r2 + r3 + r4), .int .i64 x2, .bool b, .int .i64 s]) ∧ w'.cell? ⟨g, 0, none⟩ = some (.int .i64 ((20 * wei r0 r1 r2 r3 r4 + (r0 + r1 + r2 + r3 + r4)) / (2 * (r0 + r1 + r2 + r3 + r4)))) ∧ g < w'.heap.size ∧ Grown w w' := by
  go_enter Try.func9, Try.ntmps9
  go_wp2
  go_region_held3 (fun w' => w'.cell? ⟨w.heap.size, 0, none⟩ = some (.int .i64 r0) ∧ w'.cell? ⟨w.heap.size, 1, none⟩ = some (.int .i64 r1) ∧ w'.cell? ⟨w.heap.size, 2, none⟩ = some (.int .i64 r2) ∧ w'.cell? ⟨w.heap.size, 3, none⟩ = some (.int .i64 r3) ∧ w'.cell? ⟨w.heap.size, 4, none⟩ = some (.int .i64 r4) ∧ w'.cell? ⟨w.heap.size, 5, none⟩ = some (.int .i64 x1) ∧ w'.cell? ⟨w.heap.size, 6, none⟩ = some (.int .i64 x2) ∧ w'.cell? ⟨w.heap.size, 7, none⟩ = some (.int .i64 x3) ∧ w'.cell? ⟨w.heap.size, 8, none⟩ = some (.int .i64 x4) ∧ w'.cell? ⟨w.heap.size + 1, 0, none⟩ = some (.int .i64 s) ∧ w'.cell? ⟨w.heap.size + 1, 1, none⟩ = some (.bool b)) (simp [go_sem, World.cell?_alloc_past])
    (first | (go_at_call 10; refine (total_any r0 r1 r2 r3 r4 x1 x2 x3 x4 h0 h1 h2 h3 h4 _).mono ?_; rintro e w' ⟨rfl, c1, rfl⟩))
  all_goals go_wp2_with (go_at_call 11; refine (avg_any r0 r1 r2 r3 r4 x1 x2 x3 x4 h0 h1 h2 h3 h4 hp _).mono ?_; rintro e w' ⟨rfl, c2, rfl⟩)
  all_goals refine bodyPost_ret (v := .agg #[.pointer (some ⟨w.heap.size + 6, 0, none⟩), .int .i64 (r0 + r1 + r2 + r3 + r4), .int .i64 x2, .bool b, .int .i64 s]) (by simp [results, Try.results9, go_sem]) rfl ⟨_, rfl, ?_, ?_, by repeat (first | exact Grown.refl _ | apply Grown.drew | apply Grown.alloc)⟩
  all_goals simp [go_sem]

set_option maxRecDepth 100000 in
set_option maxHeartbeats 400000 in
theorem new_none (x1 x2 x3 x4 s : Int) (b : Bool) (w : World) :
    Calls Try.prog 9 #[.agg #[.int .i64 0, .int .i64 0, .int .i64 0, .int .i64 0, .int .i64 0, .int .i64 x1, .int .i64 x2, .int .i64 x3, .int .i64 x4], .agg #[.int .i64 s, .bool b]] w fun e w' =>
      e = .returned (.agg #[.pointer none, .int .i64 0, .int .i64 x2, .bool b, .int .i64 s]) ∧ Grown w w' := by
  go_enter Try.func9, Try.ntmps9
  go_wp2
  go_region_held3 (fun w' => w'.cell? ⟨w.heap.size, 0, none⟩ = some (.int .i64 0) ∧ w'.cell? ⟨w.heap.size, 1, none⟩ = some (.int .i64 0) ∧ w'.cell? ⟨w.heap.size, 2, none⟩ = some (.int .i64 0) ∧ w'.cell? ⟨w.heap.size, 3, none⟩ = some (.int .i64 0) ∧ w'.cell? ⟨w.heap.size, 4, none⟩ = some (.int .i64 0) ∧ w'.cell? ⟨w.heap.size, 5, none⟩ = some (.int .i64 x1) ∧ w'.cell? ⟨w.heap.size, 6, none⟩ = some (.int .i64 x2) ∧ w'.cell? ⟨w.heap.size, 7, none⟩ = some (.int .i64 x3) ∧ w'.cell? ⟨w.heap.size, 8, none⟩ = some (.int .i64 x4) ∧ w'.cell? ⟨w.heap.size + 1, 0, none⟩ = some (.int .i64 s) ∧ w'.cell? ⟨w.heap.size + 1, 1, none⟩ = some (.bool b)) (simp [go_sem, World.cell?_alloc_past])
    (first | (go_at_call 10; refine (total_any 0 0 0 0 0 x1 x2 x3 x4 ok0 ok0 ok0 ok0 ok0 _).mono ?_; rintro e w' ⟨rfl, c1, rfl⟩))
  all_goals go_wp2
  all_goals exact bodyPost_ret (v := .agg #[.pointer none, .int .i64 0, .int .i64 x2, .bool b, .int .i64 s]) (by simp [results, Try.results9, go_sem]) rfl ⟨rfl, by repeat (first | exact Grown.refl _ | apply Grown.drew | apply Grown.alloc)⟩

set_option maxRecDepth 100000 in
set_option maxHeartbeats 400000 in
theorem zz_some (r0 r1 r2 r3 r4 x1 x2 x3 x4 s : Int) (b : Bool) (h0 : Ok r0) (h1 : Ok r1) (h2 : Ok r2) (h3 : Ok r3) (h4 : Ok r4) (hp : 0 < r0 + r1 + r2 + r3 + r4) (w : World) :
    Calls Try.prog 7 #[.agg #[.int .i64 r0, .int .i64 r1, .int .i64 r2, .int .i64 r3, .int .i64 r4], .int .i64 x1, .int .i64 x2, .int .i64 x3, .int .i64 x4, .int .i64 s, .bool b] w fun e w' =>
      e = .returned (.tuple #[.bool true, .int .i64 ((20 * wei r0 r1 r2 r3 r4 + (r0 + r1 + r2 + r3 + r4)) / (2 * (r0 + r1 + r2 + r3 + r4))), .int .i64 (r0 + r1 + r2 + r3 + r4), .int .i64 x2, .bool b, .int .i64 s]) ∧ Grown w w' := by
  generalize hA : (20 * wei r0 r1 r2 r3 r4 + (r0 + r1 + r2 + r3 + r4)) / (2 * (r0 + r1 + r2 + r3 + r4)) = A
  generalize hC : r0 + r1 + r2 + r3 + r4 = C
  have HA : Hid ((20 * wei r0 r1 r2 r3 r4 + (r0 + r1 + r2 + r3 + r4)) / (2 * (r0 + r1 + r2 + r3 + r4)) = A) := hA
  have HC : Hid (r0 + r1 + r2 + r3 + r4 = C) := hC
  clear hA hC
  go_enter Try.func7, Try.ntmps7
  go_wp2_with fail
  refine (new_some r0 r1 r2 r3 r4 x1 x2 x3 x4 s b h0 h1 h2 h3 h4 hp _).mono ?_
  rintro e w1 ⟨g, rfl, hcell, hlt, hg⟩
  rw [HA.out] at hcell
  rw [HC.out]
  go_wp2
  go_quiet (fail)
  go_wp2
  exact bodyPost_ret (v := .tuple #[.bool true, .int .i64 A, .int .i64 C, .int .i64 x2, .bool b, .int .i64 s]) (by simp [results, Try.results7, go_sem]) rfl ⟨rfl, by repeat (first | exact gtrans (Grown.alloc (Grown.refl _) _ _) hg | apply Grown.drew | apply Grown.alloc)⟩

set_option maxRecDepth 100000 in
set_option maxHeartbeats 400000 in
theorem zz_none (x1 x2 x3 x4 s : Int) (b : Bool) (w : World) :
    Calls Try.prog 7 #[.agg #[.int .i64 0, .int .i64 0, .int .i64 0, .int .i64 0, .int .i64 0], .int .i64 x1, .int .i64 x2, .int .i64 x3, .int .i64 x4, .int .i64 s, .bool b] w fun e w' =>
      e = .returned (.tuple #[.bool false, .int .i64 0, .int .i64 0, .int .i64 x2, .bool b, .int .i64 s]) ∧ Grown w w' := by
  go_enter Try.func7, Try.ntmps7
  go_wp2_with fail
  refine (new_none x1 x2 x3 x4 s b _).mono ?_
  rintro e w1 ⟨rfl, hg⟩
  go_wp2
  go_quiet (fail)
  go_wp2
  exact bodyPost_ret (v := .tuple #[.bool false, .int .i64 0, .int .i64 0, .int .i64 x2, .bool b, .int .i64 s]) (by simp [results, Try.results7, go_sem]) rfl ⟨rfl, by repeat (first | exact gtrans (Grown.alloc (Grown.refl _) _ _) hg | apply Grown.drew | apply Grown.alloc)⟩
end Go.Proofs.Qxb6605417a.Rise

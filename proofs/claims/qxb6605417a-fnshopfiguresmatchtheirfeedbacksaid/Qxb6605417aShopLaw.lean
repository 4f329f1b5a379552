import Derived.Test.Qxb6605417aShop
namespace Go.Proofs.Qxb6605417a.Shop
open Go.RowKit

/-! ### The plain law of the rounded mean -/
theorem avg_facts (C W : Int) (hC : 0 < C) (hW1 : C ≤ W) (hW2 : W ≤ 5 * C) : ∃ A, (20 * W + C) / (2 * C) = A ∧ 10 ≤ A ∧ A ≤ 50 ∧ (2 * A - 1) * C ≤ 20 * W ∧ 20 * W < (2 * A + 1) * C ∧ 0 ≤ (2 * A - 1) * C := by
  refine ⟨_, rfl, ?_⟩
  have k1 : 10 ≤ (20 * W + C) / (2 * C) := (Int.le_ediv_iff_mul_le (by omega)).2 (by omega)
  have k2 : (20 * W + C) / (2 * C) < 51 := (Int.ediv_lt_iff_lt_mul (by omega)).2 (by omega)
  have k3 := Int.mul_ediv_add_emod (20 * W + C) (2 * C)
  have k4 := Int.emod_nonneg (20 * W + C) (show 2 * C ≠ 0 by omega)
  have k5 := Int.emod_lt_of_pos (20 * W + C) (show 0 < 2 * C by omega)
  generalize (20 * W + C) / (2 * C) = A at *
  generalize (20 * W + C) % (2 * C) = m at *
  have e1 : (2 * A - 1) * C = 2 * C * A - C := by rw [Int.sub_mul, Int.mul_assoc, Int.mul_assoc, Int.mul_comm A C]; omega
  have e2 : (2 * A + 1) * C = 2 * C * A + C := by rw [Int.add_mul, Int.mul_assoc, Int.mul_assoc, Int.mul_comm A C]; omega
  have e3 : 0 ≤ (2 * A - 1) * C := Int.mul_nonneg (by omega) (by omega)
  exact ⟨k1, by omega, by omega, by omega, e3⟩

theorem ok_not {r : Int} (h : ¬ Ok r) : r < 0 ∨ 9223372036854775 < r := by
  unfold Ok at h; omega
theorem ret_bool {b : Bool} (h : b = true) : Ending.returned (.bool b) = .returned (.bool true) := by rw [h]

set_option maxRecDepth 100000 in
set_option maxHeartbeats 1000000 in
theorem fig_out0 (r0 r1 r2 r3 r4 x1 x2 x3 x4 s : Int) (b : Bool)  (hn : ¬ Ok r0) (w : World) :
    Calls Try.prog 4 #[.agg #[.int .i64 r0, .int .i64 r1, .int .i64 r2, .int .i64 r3, .int .i64 r4], .int .i64 x1, .int .i64 x2, .int .i64 x3, .int .i64 x4, .int .i64 s, .bool b] w fun e w' => e = .returned (.bool true) ∧ Grown w w' := by
  rcases ok_not hn with h | h
  all_goals
    clear hn
    go_enter Try.func4, Try.ntmps4
    go_wp2
    go_rounds 6
    go_ret
    exact ⟨rfl, by repeat (first | exact Grown.refl _ | apply Grown.drew | apply Grown.alloc)⟩

set_option maxRecDepth 100000 in
set_option maxHeartbeats 1000000 in
theorem fig_out1 (r0 r1 r2 r3 r4 x1 x2 x3 x4 s : Int) (b : Bool) (h0 : Ok r0) (hn : ¬ Ok r1) (w : World) :
    Calls Try.prog 4 #[.agg #[.int .i64 r0, .int .i64 r1, .int .i64 r2, .int .i64 r3, .int .i64 r4], .int .i64 x1, .int .i64 x2, .int .i64 x3, .int .i64 x4, .int .i64 s, .bool b] w fun e w' => e = .returned (.bool true) ∧ Grown w w' := by
  obtain ⟨a0, b0⟩ := h0
  rcases ok_not hn with h | h
  all_goals
    clear hn
    go_enter Try.func4, Try.ntmps4
    go_wp2
    go_rounds 6
    go_ret
    exact ⟨rfl, by repeat (first | exact Grown.refl _ | apply Grown.drew | apply Grown.alloc)⟩

set_option maxRecDepth 100000 in
set_option maxHeartbeats 1000000 in
theorem fig_out2 (r0 r1 r2 r3 r4 x1 x2 x3 x4 s : Int) (b : Bool) (h0 : Ok r0) (h1 : Ok r1) (hn : ¬ Ok r2) (w : World) :
    Calls Try.prog 4 #[.agg #[.int .i64 r0, .int .i64 r1, .int .i64 r2, .int .i64 r3, .int .i64 r4], .int .i64 x1, .int .i64 x2, .int .i64 x3, .int .i64 x4, .int .i64 s, .bool b] w fun e w' => e = .returned (.bool true) ∧ Grown w w' := by
  obtain ⟨a0, b0⟩ := h0; obtain ⟨a1, b1⟩ := h1
  rcases ok_not hn with h | h
  all_goals
    clear hn
    go_enter Try.func4, Try.ntmps4
    go_wp2
    go_rounds 6
    go_ret
    exact ⟨rfl, by repeat (first | exact Grown.refl _ | apply Grown.drew | apply Grown.alloc)⟩

set_option maxRecDepth 100000 in
set_option maxHeartbeats 1000000 in
theorem fig_out3 (r0 r1 r2 r3 r4 x1 x2 x3 x4 s : Int) (b : Bool) (h0 : Ok r0) (h1 : Ok r1) (h2 : Ok r2) (hn : ¬ Ok r3) (w : World) :
    Calls Try.prog 4 #[.agg #[.int .i64 r0, .int .i64 r1, .int .i64 r2, .int .i64 r3, .int .i64 r4], .int .i64 x1, .int .i64 x2, .int .i64 x3, .int .i64 x4, .int .i64 s, .bool b] w fun e w' => e = .returned (.bool true) ∧ Grown w w' := by
  obtain ⟨a0, b0⟩ := h0; obtain ⟨a1, b1⟩ := h1; obtain ⟨a2, b2⟩ := h2
  rcases ok_not hn with h | h
  all_goals
    clear hn
    go_enter Try.func4, Try.ntmps4
    go_wp2
    go_rounds 6
    go_ret
    exact ⟨rfl, by repeat (first | exact Grown.refl _ | apply Grown.drew | apply Grown.alloc)⟩

set_option maxRecDepth 100000 in
set_option maxHeartbeats 1000000 in
theorem fig_out4 (r0 r1 r2 r3 r4 x1 x2 x3 x4 s : Int) (b : Bool) (h0 : Ok r0) (h1 : Ok r1) (h2 : Ok r2) (h3 : Ok r3) (hn : ¬ Ok r4) (w : World) :
    Calls Try.prog 4 #[.agg #[.int .i64 r0, .int .i64 r1, .int .i64 r2, .int .i64 r3, .int .i64 r4], .int .i64 x1, .int .i64 x2, .int .i64 x3, .int .i64 x4, .int .i64 s, .bool b] w fun e w' => e = .returned (.bool true) ∧ Grown w w' := by
  obtain ⟨a0, b0⟩ := h0; obtain ⟨a1, b1⟩ := h1; obtain ⟨a2, b2⟩ := h2; obtain ⟨a3, b3⟩ := h3
  rcases ok_not hn with h | h
  all_goals
    clear hn
    go_enter Try.func4, Try.ntmps4
    go_wp2
    go_rounds 6
    go_ret
    exact ⟨rfl, by repeat (first | exact Grown.refl _ | apply Grown.drew | apply Grown.alloc)⟩

set_option maxRecDepth 100000 in
set_option maxHeartbeats 1000000 in
theorem fig_none (x1 x2 x3 x4 s : Int) (b : Bool) (w : World) :
    Calls Try.prog 4 #[.agg #[.int .i64 0, .int .i64 0, .int .i64 0, .int .i64 0, .int .i64 0], .int .i64 x1, .int .i64 x2, .int .i64 x3, .int .i64 x4, .int .i64 s, .bool b] w fun e w' => e = .returned (.bool true) ∧ Grown w w' := by
  go_enter Try.func4, Try.ntmps4
  go_wp2
  refine wp_loop_rounds 6 ?_
  iterate 6 (rw [rounds_succ]; go_wp2)
  refine wp_loop_rounds 6 ?_
  iterate 6 (rw [rounds_succ]; go_wp2_with fail)
  refine (zz_none x1 x2 x3 x4 s b _).mono ?_
  rintro e w1 ⟨rfl, hg⟩
  go_wp2
  go_ret
  exact ⟨rfl, gtrans (Grown.alloc (Grown.refl _) _ _) hg⟩

set_option maxRecDepth 100000 in
set_option maxHeartbeats 1000000 in
theorem fig_some (r0 r1 r2 r3 r4 x1 x2 x3 x4 s : Int) (b : Bool) (h0 : Ok r0) (h1 : Ok r1) (h2 : Ok r2) (h3 : Ok r3) (h4 : Ok r4) (hp : 0 < r0 + r1 + r2 + r3 + r4) (w : World) :
    Calls Try.prog 4 #[.agg #[.int .i64 r0, .int .i64 r1, .int .i64 r2, .int .i64 r3, .int .i64 r4], .int .i64 x1, .int .i64 x2, .int .i64 x3, .int .i64 x4, .int .i64 s, .bool b] w fun e w' => e = .returned (.bool true) ∧ Grown w w' := by
  have g0 := h0; have g1 := h1; have g2 := h2; have g3 := h3; have g4 := h4
  obtain ⟨a0, b0⟩ := g0; obtain ⟨a1, b1⟩ := g1; obtain ⟨a2, b2⟩ := g2; obtain ⟨a3, b3⟩ := g3; obtain ⟨a4, b4⟩ := g4
  obtain ⟨A, hA, f1, f2, f3, f4, f5⟩ := avg_facts (r0 + r1 + r2 + r3 + r4) (wei r0 r1 r2 r3 r4) hp (by unfold wei; omega) (by unfold wei; omega)
  have f6 : (2 * A + 1) * (r0 + r1 + r2 + r3 + r4) ≤ 9223372036854775807 := by
    have : (2 * A + 1) * (r0 + r1 + r2 + r3 + r4) ≤ 101 * (r0 + r1 + r2 + r3 + r4) := Int.mul_le_mul_of_nonneg_right (by omega) (by omega)
    omega
  have HA : Hid ((20 * wei r0 r1 r2 r3 r4 + (r0 + r1 + r2 + r3 + r4)) / (2 * (r0 + r1 + r2 + r3 + r4)) = A) := hA
  clear hA
  unfold wei at f3 f4
  go_enter Try.func4, Try.ntmps4
  go_wp2
  refine wp_loop_rounds 6 ?_
  iterate 6 (rw [rounds_succ]; go_wp2)
  refine wp_loop_rounds 6 ?_
  iterate 6 (rw [rounds_succ]; go_wp2_with fail)
  refine (zz_some r0 r1 r2 r3 r4 x1 x2 x3 x4 s b h0 h1 h2 h3 h4 hp _).mono ?_
  rintro e w1 ⟨rfl, hg⟩
  rw [HA.out]
  go_wp2
  go_ret
  exact ⟨rfl, gtrans (Grown.alloc (Grown.refl _) _ _) hg⟩

theorem fig_any (r0 r1 r2 r3 r4 x1 x2 x3 x4 s : Int) (b : Bool) (w : World) :
    Calls Try.prog 4 #[.agg #[.int .i64 r0, .int .i64 r1, .int .i64 r2, .int .i64 r3, .int .i64 r4], .int .i64 x1, .int .i64 x2, .int .i64 x3, .int .i64 x4, .int .i64 s, .bool b] w fun e w' => e = .returned (.bool true) ∧ Grown w w' := by
  by_cases h0 : Ok r0
  case neg => exact fig_out0 r0 r1 r2 r3 r4 x1 x2 x3 x4 s b  h0 w
  by_cases h1 : Ok r1
  case neg => exact fig_out1 r0 r1 r2 r3 r4 x1 x2 x3 x4 s b h0 h1 w
  by_cases h2 : Ok r2
  case neg => exact fig_out2 r0 r1 r2 r3 r4 x1 x2 x3 x4 s b h0 h1 h2 w
  by_cases h3 : Ok r3
  case neg => exact fig_out3 r0 r1 r2 r3 r4 x1 x2 x3 x4 s b h0 h1 h2 h3 w
  by_cases h4 : Ok r4
  case neg => exact fig_out4 r0 r1 r2 r3 r4 x1 x2 x3 x4 s b h0 h1 h2 h3 h4 w
  by_cases hp : 0 < r0 + r1 + r2 + r3 + r4
  · exact fig_some r0 r1 r2 r3 r4 x1 x2 x3 x4 s b h0 h1 h2 h3 h4 hp w
  · obtain ⟨a0, _⟩ := h0; obtain ⟨a1, _⟩ := h1; obtain ⟨a2, _⟩ := h2; obtain ⟨a3, _⟩ := h3; obtain ⟨a4, _⟩ := h4
    obtain rfl : r0 = 0 := by omega
    obtain rfl : r1 = 0 := by omega
    obtain rfl : r2 = 0 := by omega
    obtain rfl : r3 = 0 := by omega
    obtain rfl : r4 = 0 := by omega
    exact fig_none x1 x2 x3 x4 s b w
end Go.Proofs.Qxb6605417a.Shop

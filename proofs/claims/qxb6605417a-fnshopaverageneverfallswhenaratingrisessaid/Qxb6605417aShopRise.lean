import Derived.Test.Qxb6605417aShopOne
namespace Go.Proofs.Qxb6605417a.Rise
open Go.RowKit

/-- A count that the law lets in. -/
def In (r : Int) : Prop := 0 ≤ r ∧ r ≤ 9223372036854775
theorem in_ok {r : Int} (h : In r) : Ok r := ⟨h.1, by have := h.2; omega⟩
theorem in_not {r : Int} (h : ¬ In r) : r < 0 ∨ 9223372036854775 < r := by
  unfold In at h; omega

theorem ret_bool {b : Bool} (h : b = true) : Ending.returned (.bool b) = .returned (.bool true) := by rw [h]
/-! ### The plain law: the rounded mean does not fall -/
theorem two_avgs (C W C2 W2 : Int) (hC : 0 < C) (hC2 : C2 = C) (hW1 : C ≤ W) (hW2 : W2 ≤ 5 * C) (hW : W2 = W + 1) :
    ∃ A B, (20 * W + C) / (2 * C) = A ∧ (20 * W2 + C2) / (2 * C2) = B ∧ 10 ≤ A ∧ A ≤ B ∧ B ≤ 50 ∧ (C = 1 → B = A + 10) := by
  subst hC2; subst hW
  refine ⟨_, _, rfl, rfl, (Int.le_ediv_iff_mul_le (by omega)).2 (by omega), Int.ediv_le_ediv (by omega) (by omega), ?_, ?_⟩
  · have k2 : (20 * (W + 1) + C2) / (2 * C2) < 51 := (Int.ediv_lt_iff_lt_mul (by omega)).2 (by omega)
    omega
  · intro h; subst h; omega

set_option maxRecDepth 100000 in
set_option maxHeartbeats 1000000 in
theorem rise_out0 (r0 r1 r2 r3 r4 f : Int)  (hn : ¬ In r0) (w : World) :
    Calls Try.prog 5 #[.agg #[.int .i64 r0, .int .i64 r1, .int .i64 r2, .int .i64 r3, .int .i64 r4], .int .i64 f] w fun e w' => e = .returned (.bool true) ∧ Grown w w' := by
  rcases in_not hn with h | h
  all_goals
    clear hn
    go_enter Try.func5, Try.ntmps5
    go_wp2
    go_rounds 6
    go_ret
    exact ⟨rfl, by repeat (first | exact Grown.refl _ | apply Grown.drew | apply Grown.alloc)⟩

set_option maxRecDepth 100000 in
set_option maxHeartbeats 1000000 in
theorem rise_out1 (r0 r1 r2 r3 r4 f : Int) (h0 : In r0) (hn : ¬ In r1) (w : World) :
    Calls Try.prog 5 #[.agg #[.int .i64 r0, .int .i64 r1, .int .i64 r2, .int .i64 r3, .int .i64 r4], .int .i64 f] w fun e w' => e = .returned (.bool true) ∧ Grown w w' := by
  obtain ⟨a0, b0⟩ := h0
  rcases in_not hn with h | h
  all_goals
    clear hn
    go_enter Try.func5, Try.ntmps5
    go_wp2
    go_rounds 6
    go_ret
    exact ⟨rfl, by repeat (first | exact Grown.refl _ | apply Grown.drew | apply Grown.alloc)⟩

set_option maxRecDepth 100000 in
set_option maxHeartbeats 1000000 in
theorem rise_out2 (r0 r1 r2 r3 r4 f : Int) (h0 : In r0) (h1 : In r1) (hn : ¬ In r2) (w : World) :
    Calls Try.prog 5 #[.agg #[.int .i64 r0, .int .i64 r1, .int .i64 r2, .int .i64 r3, .int .i64 r4], .int .i64 f] w fun e w' => e = .returned (.bool true) ∧ Grown w w' := by
  obtain ⟨a0, b0⟩ := h0; obtain ⟨a1, b1⟩ := h1
  rcases in_not hn with h | h
  all_goals
    clear hn
    go_enter Try.func5, Try.ntmps5
    go_wp2
    go_rounds 6
    go_ret
    exact ⟨rfl, by repeat (first | exact Grown.refl _ | apply Grown.drew | apply Grown.alloc)⟩

set_option maxRecDepth 100000 in
set_option maxHeartbeats 1000000 in
theorem rise_out3 (r0 r1 r2 r3 r4 f : Int) (h0 : In r0) (h1 : In r1) (h2 : In r2) (hn : ¬ In r3) (w : World) :
    Calls Try.prog 5 #[.agg #[.int .i64 r0, .int .i64 r1, .int .i64 r2, .int .i64 r3, .int .i64 r4], .int .i64 f] w fun e w' => e = .returned (.bool true) ∧ Grown w w' := by
  obtain ⟨a0, b0⟩ := h0; obtain ⟨a1, b1⟩ := h1; obtain ⟨a2, b2⟩ := h2
  rcases in_not hn with h | h
  all_goals
    clear hn
    go_enter Try.func5, Try.ntmps5
    go_wp2
    go_rounds 6
    go_ret
    exact ⟨rfl, by repeat (first | exact Grown.refl _ | apply Grown.drew | apply Grown.alloc)⟩

set_option maxRecDepth 100000 in
set_option maxHeartbeats 1000000 in
theorem rise_out4 (r0 r1 r2 r3 r4 f : Int) (h0 : In r0) (h1 : In r1) (h2 : In r2) (h3 : In r3) (hn : ¬ In r4) (w : World) :
    Calls Try.prog 5 #[.agg #[.int .i64 r0, .int .i64 r1, .int .i64 r2, .int .i64 r3, .int .i64 r4], .int .i64 f] w fun e w' => e = .returned (.bool true) ∧ Grown w w' := by
  obtain ⟨a0, b0⟩ := h0; obtain ⟨a1, b1⟩ := h1; obtain ⟨a2, b2⟩ := h2; obtain ⟨a3, b3⟩ := h3
  rcases in_not hn with h | h
  all_goals
    clear hn
    go_enter Try.func5, Try.ntmps5
    go_wp2
    go_rounds 6
    go_ret
    exact ⟨rfl, by repeat (first | exact Grown.refl _ | apply Grown.drew | apply Grown.alloc)⟩

set_option maxRecDepth 100000 in
set_option maxHeartbeats 1000000 in
theorem rise_off (r0 r1 r2 r3 r4 f : Int) (h0 : In r0) (h1 : In r1) (h2 : In r2) (h3 : In r3) (h4 : In r4) (hf : f < 0 ∨ 3 < f) (w : World) :
    Calls Try.prog 5 #[.agg #[.int .i64 r0, .int .i64 r1, .int .i64 r2, .int .i64 r3, .int .i64 r4], .int .i64 f] w fun e w' => e = .returned (.bool true) ∧ Grown w w' := by
  have g0 := h0; have g1 := h1; have g2 := h2; have g3 := h3; have g4 := h4
  obtain ⟨a0, b0⟩ := g0; obtain ⟨a1, b1⟩ := g1; obtain ⟨a2, b2⟩ := g2; obtain ⟨a3, b3⟩ := g3; obtain ⟨a4, b4⟩ := g4
  rcases hf with h | h
  all_goals
    go_enter Try.func5, Try.ntmps5
    go_wp2
    go_rounds 6
    go_ret
    exact ⟨rfl, by repeat (first | exact Grown.refl _ | apply Grown.drew | apply Grown.alloc)⟩

set_option maxRecDepth 100000 in
set_option maxHeartbeats 1000000 in
theorem rise_few0 (r0 r1 r2 r3 r4 : Int) (h0 : In r0) (h1 : In r1) (h2 : In r2) (h3 : In r3) (h4 : In r4) (hf : r0 < 1) (w : World) :
    Calls Try.prog 5 #[.agg #[.int .i64 r0, .int .i64 r1, .int .i64 r2, .int .i64 r3, .int .i64 r4], .int .i64 0] w fun e w' => e = .returned (.bool true) ∧ Grown w w' := by
  have g0 := h0; have g1 := h1; have g2 := h2; have g3 := h3; have g4 := h4
  obtain ⟨a0, b0⟩ := g0; obtain ⟨a1, b1⟩ := g1; obtain ⟨a2, b2⟩ := g2; obtain ⟨a3, b3⟩ := g3; obtain ⟨a4, b4⟩ := g4
  go_enter Try.func5, Try.ntmps5
  go_wp2
  go_rounds 6
  go_ret
  exact ⟨rfl, by repeat (first | exact Grown.refl _ | apply Grown.drew | apply Grown.alloc)⟩

set_option maxRecDepth 100000 in
set_option maxHeartbeats 1000000 in
theorem rise_at0 (r0 r1 r2 r3 r4 : Int) (h0 : In r0) (h1 : In r1) (h2 : In r2) (h3 : In r3) (h4 : In r4) (hf : 1 ≤ r0) (w : World) :
    Calls Try.prog 5 #[.agg #[.int .i64 r0, .int .i64 r1, .int .i64 r2, .int .i64 r3, .int .i64 r4], .int .i64 0] w fun e w' => e = .returned (.bool true) ∧ Grown w w' := by
  have g0 := h0; have g1 := h1; have g2 := h2; have g3 := h3; have g4 := h4
  obtain ⟨a0, b0⟩ := g0; obtain ⟨a1, b1⟩ := g1; obtain ⟨a2, b2⟩ := g2; obtain ⟨a3, b3⟩ := g3; obtain ⟨a4, b4⟩ := g4
  have hp : 0 < r0 + r1 + r2 + r3 + r4 := by omega
  obtain ⟨A, B, hA, hB, f1, f2, f3, f4⟩ := two_avgs (r0 + r1 + r2 + r3 + r4) (wei r0 r1 r2 r3 r4) ((r0 - 1) + (r1 + 1) + r2 + r3 + r4) (wei (r0 - 1) (r1 + 1) r2 r3 r4) hp (by omega) (by unfold wei; omega) (by unfold wei; omega) (by unfold wei; omega)
  have HA : Hid ((20 * wei r0 r1 r2 r3 r4 + (r0 + r1 + r2 + r3 + r4)) / (2 * (r0 + r1 + r2 + r3 + r4)) = A) := hA
  have HB : Hid ((20 * wei (r0 - 1) (r1 + 1) r2 r3 r4 + ((r0 - 1) + (r1 + 1) + r2 + r3 + r4)) / (2 * ((r0 - 1) + (r1 + 1) + r2 + r3 + r4)) = B) := hB
  have F4 : Hid (r0 + r1 + r2 + r3 + r4 = 1 → B = A + 10) := f4
  clear hA hB f4
  go_enter Try.func5, Try.ntmps5
  go_wp2
  refine wp_loop_rounds 6 ?_
  iterate 6 (rw [rounds_succ]; go_wp2)
  refine wp_loop_rounds 6 ?_
  iterate 6 (rw [rounds_succ]; go_wp2_with fail)
  refine (zz_some r0 r1 r2 r3 r4 0 0 0 0 0 false (in_ok h0) (in_ok h1) (in_ok h2) (in_ok h3) (in_ok h4) hp _).mono ?_
  rintro e w1 ⟨rfl, hg1⟩
  rw [HA.out]
  have hz := hg1.2.2
  have hc1 := fun (b o : Nat) (h : b < w.heap.size + 2) => hg1.1.cell (off := o) (b := b) (by simpa using h) (fun f => f)
  go_wp2_with fail
  refine (zz_some (r0 - 1) (r1 + 1) r2 r3 r4 0 0 0 0 0 false ⟨by omega, by omega⟩ ⟨by omega, by omega⟩ ⟨by omega, by omega⟩ ⟨by omega, by omega⟩ ⟨by omega, by omega⟩ (by omega) _).mono ?_
  rintro e w2 ⟨rfl, hg2⟩
  rw [HB.out]
  have G : Grown w w2 := gtrans (gtrans (Grown.alloc (Grown.alloc (Grown.refl _) _ _) _ _) hg1) hg2
  by_cases h1 : r0 + r1 + r2 + r3 + r4 = 1
  · have q1 : B ≤ A + 10 := by rw [F4.out h1]; exact Int.le_refl _
    have q2 : A + 10 ≤ B := by rw [F4.out h1]; exact Int.le_refl _
    have q3 : r0 + r1 + r2 + r3 + r4 ≤ 1 := by omega
    clear h1
    go_wp2
    go_ret
    exact ⟨ret_bool (by rw [beq_iff_eq]; omega), G⟩
  · have q3 : 2 ≤ r0 + r1 + r2 + r3 + r4 := by omega
    clear h1
    go_wp2
    go_ret
    exact ⟨rfl, G⟩

set_option maxRecDepth 100000 in
set_option maxHeartbeats 1000000 in
theorem rise_few1 (r0 r1 r2 r3 r4 : Int) (h0 : In r0) (h1 : In r1) (h2 : In r2) (h3 : In r3) (h4 : In r4) (hf : r1 < 1) (w : World) :
    Calls Try.prog 5 #[.agg #[.int .i64 r0, .int .i64 r1, .int .i64 r2, .int .i64 r3, .int .i64 r4], .int .i64 1] w fun e w' => e = .returned (.bool true) ∧ Grown w w' := by
  have g0 := h0; have g1 := h1; have g2 := h2; have g3 := h3; have g4 := h4
  obtain ⟨a0, b0⟩ := g0; obtain ⟨a1, b1⟩ := g1; obtain ⟨a2, b2⟩ := g2; obtain ⟨a3, b3⟩ := g3; obtain ⟨a4, b4⟩ := g4
  go_enter Try.func5, Try.ntmps5
  go_wp2
  go_rounds 6
  go_ret
  exact ⟨rfl, by repeat (first | exact Grown.refl _ | apply Grown.drew | apply Grown.alloc)⟩

set_option maxRecDepth 100000 in
set_option maxHeartbeats 1000000 in
theorem rise_at1 (r0 r1 r2 r3 r4 : Int) (h0 : In r0) (h1 : In r1) (h2 : In r2) (h3 : In r3) (h4 : In r4) (hf : 1 ≤ r1) (w : World) :
    Calls Try.prog 5 #[.agg #[.int .i64 r0, .int .i64 r1, .int .i64 r2, .int .i64 r3, .int .i64 r4], .int .i64 1] w fun e w' => e = .returned (.bool true) ∧ Grown w w' := by
  have g0 := h0; have g1 := h1; have g2 := h2; have g3 := h3; have g4 := h4
  obtain ⟨a0, b0⟩ := g0; obtain ⟨a1, b1⟩ := g1; obtain ⟨a2, b2⟩ := g2; obtain ⟨a3, b3⟩ := g3; obtain ⟨a4, b4⟩ := g4
  have hp : 0 < r0 + r1 + r2 + r3 + r4 := by omega
  obtain ⟨A, B, hA, hB, f1, f2, f3, f4⟩ := two_avgs (r0 + r1 + r2 + r3 + r4) (wei r0 r1 r2 r3 r4) (r0 + (r1 - 1) + (r2 + 1) + r3 + r4) (wei r0 (r1 - 1) (r2 + 1) r3 r4) hp (by omega) (by unfold wei; omega) (by unfold wei; omega) (by unfold wei; omega)
  have HA : Hid ((20 * wei r0 r1 r2 r3 r4 + (r0 + r1 + r2 + r3 + r4)) / (2 * (r0 + r1 + r2 + r3 + r4)) = A) := hA
  have HB : Hid ((20 * wei r0 (r1 - 1) (r2 + 1) r3 r4 + (r0 + (r1 - 1) + (r2 + 1) + r3 + r4)) / (2 * (r0 + (r1 - 1) + (r2 + 1) + r3 + r4)) = B) := hB
  have F4 : Hid (r0 + r1 + r2 + r3 + r4 = 1 → B = A + 10) := f4
  clear hA hB f4
  go_enter Try.func5, Try.ntmps5
  go_wp2
  refine wp_loop_rounds 6 ?_
  iterate 6 (rw [rounds_succ]; go_wp2)
  refine wp_loop_rounds 6 ?_
  iterate 6 (rw [rounds_succ]; go_wp2_with fail)
  refine (zz_some r0 r1 r2 r3 r4 0 0 0 0 0 false (in_ok h0) (in_ok h1) (in_ok h2) (in_ok h3) (in_ok h4) hp _).mono ?_
  rintro e w1 ⟨rfl, hg1⟩
  rw [HA.out]
  have hz := hg1.2.2
  have hc1 := fun (b o : Nat) (h : b < w.heap.size + 2) => hg1.1.cell (off := o) (b := b) (by simpa using h) (fun f => f)
  go_wp2_with fail
  refine (zz_some r0 (r1 - 1) (r2 + 1) r3 r4 0 0 0 0 0 false ⟨by omega, by omega⟩ ⟨by omega, by omega⟩ ⟨by omega, by omega⟩ ⟨by omega, by omega⟩ ⟨by omega, by omega⟩ (by omega) _).mono ?_
  rintro e w2 ⟨rfl, hg2⟩
  rw [HB.out]
  have G : Grown w w2 := gtrans (gtrans (Grown.alloc (Grown.alloc (Grown.refl _) _ _) _ _) hg1) hg2
  by_cases h1 : r0 + r1 + r2 + r3 + r4 = 1
  · have q1 : B ≤ A + 10 := by rw [F4.out h1]; exact Int.le_refl _
    have q2 : A + 10 ≤ B := by rw [F4.out h1]; exact Int.le_refl _
    have q3 : r0 + r1 + r2 + r3 + r4 ≤ 1 := by omega
    clear h1
    go_wp2
    go_ret
    exact ⟨ret_bool (by rw [beq_iff_eq]; omega), G⟩
  · have q3 : 2 ≤ r0 + r1 + r2 + r3 + r4 := by omega
    clear h1
    go_wp2
    go_ret
    exact ⟨rfl, G⟩

set_option maxRecDepth 100000 in
set_option maxHeartbeats 1000000 in
theorem rise_few2 (r0 r1 r2 r3 r4 : Int) (h0 : In r0) (h1 : In r1) (h2 : In r2) (h3 : In r3) (h4 : In r4) (hf : r2 < 1) (w : World) :
    Calls Try.prog 5 #[.agg #[.int .i64 r0, .int .i64 r1, .int .i64 r2, .int .i64 r3, .int .i64 r4], .int .i64 2] w fun e w' => e = .returned (.bool true) ∧ Grown w w' := by
  have g0 := h0; have g1 := h1; have g2 := h2; have g3 := h3; have g4 := h4
  obtain ⟨a0, b0⟩ := g0; obtain ⟨a1, b1⟩ := g1; obtain ⟨a2, b2⟩ := g2; obtain ⟨a3, b3⟩ := g3; obtain ⟨a4, b4⟩ := g4
  go_enter Try.func5, Try.ntmps5
  go_wp2
  go_rounds 6
  go_ret
  exact ⟨rfl, by repeat (first | exact Grown.refl _ | apply Grown.drew | apply Grown.alloc)⟩

set_option maxRecDepth 100000 in
set_option maxHeartbeats 1000000 in
theorem rise_at2 (r0 r1 r2 r3 r4 : Int) (h0 : In r0) (h1 : In r1) (h2 : In r2) (h3 : In r3) (h4 : In r4) (hf : 1 ≤ r2) (w : World) :
    Calls Try.prog 5 #[.agg #[.int .i64 r0, .int .i64 r1, .int .i64 r2, .int .i64 r3, .int .i64 r4], .int .i64 2] w fun e w' => e = .returned (.bool true) ∧ Grown w w' := by
  have g0 := h0; have g1 := h1; have g2 := h2; have g3 := h3; have g4 := h4
  obtain ⟨a0, b0⟩ := g0; obtain ⟨a1, b1⟩ := g1; obtain ⟨a2, b2⟩ := g2; obtain ⟨a3, b3⟩ := g3; obtain ⟨a4, b4⟩ := g4
  have hp : 0 < r0 + r1 + r2 + r3 + r4 := by omega
  obtain ⟨A, B, hA, hB, f1, f2, f3, f4⟩ := two_avgs (r0 + r1 + r2 + r3 + r4) (wei r0 r1 r2 r3 r4) (r0 + r1 + (r2 - 1) + (r3 + 1) + r4) (wei r0 r1 (r2 - 1) (r3 + 1) r4) hp (by omega) (by unfold wei; omega) (by unfold wei; omega) (by unfold wei; omega)
  have HA : Hid ((20 * wei r0 r1 r2 r3 r4 + (r0 + r1 + r2 + r3 + r4)) / (2 * (r0 + r1 + r2 + r3 + r4)) = A) := hA
  have HB : Hid ((20 * wei r0 r1 (r2 - 1) (r3 + 1) r4 + (r0 + r1 + (r2 - 1) + (r3 + 1) + r4)) / (2 * (r0 + r1 + (r2 - 1) + (r3 + 1) + r4)) = B) := hB
  have F4 : Hid (r0 + r1 + r2 + r3 + r4 = 1 → B = A + 10) := f4
  clear hA hB f4
  go_enter Try.func5, Try.ntmps5
  go_wp2
  refine wp_loop_rounds 6 ?_
  iterate 6 (rw [rounds_succ]; go_wp2)
  refine wp_loop_rounds 6 ?_
  iterate 6 (rw [rounds_succ]; go_wp2_with fail)
  refine (zz_some r0 r1 r2 r3 r4 0 0 0 0 0 false (in_ok h0) (in_ok h1) (in_ok h2) (in_ok h3) (in_ok h4) hp _).mono ?_
  rintro e w1 ⟨rfl, hg1⟩
  rw [HA.out]
  have hz := hg1.2.2
  have hc1 := fun (b o : Nat) (h : b < w.heap.size + 2) => hg1.1.cell (off := o) (b := b) (by simpa using h) (fun f => f)
  go_wp2_with fail
  refine (zz_some r0 r1 (r2 - 1) (r3 + 1) r4 0 0 0 0 0 false ⟨by omega, by omega⟩ ⟨by omega, by omega⟩ ⟨by omega, by omega⟩ ⟨by omega, by omega⟩ ⟨by omega, by omega⟩ (by omega) _).mono ?_
  rintro e w2 ⟨rfl, hg2⟩
  rw [HB.out]
  have G : Grown w w2 := gtrans (gtrans (Grown.alloc (Grown.alloc (Grown.refl _) _ _) _ _) hg1) hg2
  by_cases h1 : r0 + r1 + r2 + r3 + r4 = 1
  · have q1 : B ≤ A + 10 := by rw [F4.out h1]; exact Int.le_refl _
    have q2 : A + 10 ≤ B := by rw [F4.out h1]; exact Int.le_refl _
    have q3 : r0 + r1 + r2 + r3 + r4 ≤ 1 := by omega
    clear h1
    go_wp2
    go_ret
    exact ⟨ret_bool (by rw [beq_iff_eq]; omega), G⟩
  · have q3 : 2 ≤ r0 + r1 + r2 + r3 + r4 := by omega
    clear h1
    go_wp2
    go_ret
    exact ⟨rfl, G⟩

set_option maxRecDepth 100000 in
set_option maxHeartbeats 1000000 in
theorem rise_few3 (r0 r1 r2 r3 r4 : Int) (h0 : In r0) (h1 : In r1) (h2 : In r2) (h3 : In r3) (h4 : In r4) (hf : r3 < 1) (w : World) :
    Calls Try.prog 5 #[.agg #[.int .i64 r0, .int .i64 r1, .int .i64 r2, .int .i64 r3, .int .i64 r4], .int .i64 3] w fun e w' => e = .returned (.bool true) ∧ Grown w w' := by
  have g0 := h0; have g1 := h1; have g2 := h2; have g3 := h3; have g4 := h4
  obtain ⟨a0, b0⟩ := g0; obtain ⟨a1, b1⟩ := g1; obtain ⟨a2, b2⟩ := g2; obtain ⟨a3, b3⟩ := g3; obtain ⟨a4, b4⟩ := g4
  go_enter Try.func5, Try.ntmps5
  go_wp2
  go_rounds 6
  go_ret
  exact ⟨rfl, by repeat (first | exact Grown.refl _ | apply Grown.drew | apply Grown.alloc)⟩

set_option maxRecDepth 100000 in
set_option maxHeartbeats 1000000 in
theorem rise_at3 (r0 r1 r2 r3 r4 : Int) (h0 : In r0) (h1 : In r1) (h2 : In r2) (h3 : In r3) (h4 : In r4) (hf : 1 ≤ r3) (w : World) :
    Calls Try.prog 5 #[.agg #[.int .i64 r0, .int .i64 r1, .int .i64 r2, .int .i64 r3, .int .i64 r4], .int .i64 3] w fun e w' => e = .returned (.bool true) ∧ Grown w w' := by
  have g0 := h0; have g1 := h1; have g2 := h2; have g3 := h3; have g4 := h4
  obtain ⟨a0, b0⟩ := g0; obtain ⟨a1, b1⟩ := g1; obtain ⟨a2, b2⟩ := g2; obtain ⟨a3, b3⟩ := g3; obtain ⟨a4, b4⟩ := g4
  have hp : 0 < r0 + r1 + r2 + r3 + r4 := by omega
  obtain ⟨A, B, hA, hB, f1, f2, f3, f4⟩ := two_avgs (r0 + r1 + r2 + r3 + r4) (wei r0 r1 r2 r3 r4) (r0 + r1 + r2 + (r3 - 1) + (r4 + 1)) (wei r0 r1 r2 (r3 - 1) (r4 + 1)) hp (by omega) (by unfold wei; omega) (by unfold wei; omega) (by unfold wei; omega)
  have HA : Hid ((20 * wei r0 r1 r2 r3 r4 + (r0 + r1 + r2 + r3 + r4)) / (2 * (r0 + r1 + r2 + r3 + r4)) = A) := hA
  have HB : Hid ((20 * wei r0 r1 r2 (r3 - 1) (r4 + 1) + (r0 + r1 + r2 + (r3 - 1) + (r4 + 1))) / (2 * (r0 + r1 + r2 + (r3 - 1) + (r4 + 1))) = B) := hB
  have F4 : Hid (r0 + r1 + r2 + r3 + r4 = 1 → B = A + 10) := f4
  clear hA hB f4
  go_enter Try.func5, Try.ntmps5
  go_wp2
  refine wp_loop_rounds 6 ?_
  iterate 6 (rw [rounds_succ]; go_wp2)
  refine wp_loop_rounds 6 ?_
  iterate 6 (rw [rounds_succ]; go_wp2_with fail)
  refine (zz_some r0 r1 r2 r3 r4 0 0 0 0 0 false (in_ok h0) (in_ok h1) (in_ok h2) (in_ok h3) (in_ok h4) hp _).mono ?_
  rintro e w1 ⟨rfl, hg1⟩
  rw [HA.out]
  have hz := hg1.2.2
  have hc1 := fun (b o : Nat) (h : b < w.heap.size + 2) => hg1.1.cell (off := o) (b := b) (by simpa using h) (fun f => f)
  go_wp2_with fail
  refine (zz_some r0 r1 r2 (r3 - 1) (r4 + 1) 0 0 0 0 0 false ⟨by omega, by omega⟩ ⟨by omega, by omega⟩ ⟨by omega, by omega⟩ ⟨by omega, by omega⟩ ⟨by omega, by omega⟩ (by omega) _).mono ?_
  rintro e w2 ⟨rfl, hg2⟩
  rw [HB.out]
  have G : Grown w w2 := gtrans (gtrans (Grown.alloc (Grown.alloc (Grown.refl _) _ _) _ _) hg1) hg2
  by_cases h1 : r0 + r1 + r2 + r3 + r4 = 1
  · have q1 : B ≤ A + 10 := by rw [F4.out h1]; exact Int.le_refl _
    have q2 : A + 10 ≤ B := by rw [F4.out h1]; exact Int.le_refl _
    have q3 : r0 + r1 + r2 + r3 + r4 ≤ 1 := by omega
    clear h1
    go_wp2
    go_ret
    exact ⟨ret_bool (by rw [beq_iff_eq]; omega), G⟩
  · have q3 : 2 ≤ r0 + r1 + r2 + r3 + r4 := by omega
    clear h1
    go_wp2
    go_ret
    exact ⟨rfl, G⟩

theorem rise_any (r0 r1 r2 r3 r4 f : Int) (w : World) :
    Calls Try.prog 5 #[.agg #[.int .i64 r0, .int .i64 r1, .int .i64 r2, .int .i64 r3, .int .i64 r4], .int .i64 f] w fun e w' => e = .returned (.bool true) ∧ Grown w w' := by
  by_cases h0 : In r0
  case neg => exact rise_out0 r0 r1 r2 r3 r4 f  h0 w
  by_cases h1 : In r1
  case neg => exact rise_out1 r0 r1 r2 r3 r4 f h0 h1 w
  by_cases h2 : In r2
  case neg => exact rise_out2 r0 r1 r2 r3 r4 f h0 h1 h2 w
  by_cases h3 : In r3
  case neg => exact rise_out3 r0 r1 r2 r3 r4 f h0 h1 h2 h3 w
  by_cases h4 : In r4
  case neg => exact rise_out4 r0 r1 r2 r3 r4 f h0 h1 h2 h3 h4 w
  by_cases hf : f < 0 ∨ 3 < f
  · exact rise_off r0 r1 r2 r3 r4 f h0 h1 h2 h3 h4 hf w
  have hf4 : f = 0 ∨ f = 1 ∨ f = 2 ∨ f = 3 := by omega
  clear hf
  rcases hf4 with rfl | rfl | rfl | rfl
  · by_cases hk : r0 < 1
    · exact rise_few0 r0 r1 r2 r3 r4 h0 h1 h2 h3 h4 hk w
    · exact rise_at0 r0 r1 r2 r3 r4 h0 h1 h2 h3 h4 (by omega) w
  · by_cases hk : r1 < 1
    · exact rise_few1 r0 r1 r2 r3 r4 h0 h1 h2 h3 h4 hk w
    · exact rise_at1 r0 r1 r2 r3 r4 h0 h1 h2 h3 h4 (by omega) w
  · by_cases hk : r2 < 1
    · exact rise_few2 r0 r1 r2 r3 r4 h0 h1 h2 h3 h4 hk w
    · exact rise_at2 r0 r1 r2 r3 r4 h0 h1 h2 h3 h4 (by omega) w
  · by_cases hk : r3 < 1
    · exact rise_few3 r0 r1 r2 r3 r4 h0 h1 h2 h3 h4 hk w
    · exact rise_at3 r0 r1 r2 r3 r4 h0 h1 h2 h3 h4 (by omega) w
end Go.Proofs.Qxb6605417a.Rise

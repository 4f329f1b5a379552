import Derived.Test.Qxb6605417aRows
import Derived.WalkKit
import Derived.WalkSpells
import Derived.WalkLawsBesides
import Derived.Outline
import Derived.Deep.QuietTactic
import Derived.BigQuiet
import Derived.RowKit3
import Derived.Deep.DeepCutAuto
namespace Go.Proofs.Qxb6605417a.Page
open Go.RowKit

theorem wrap_back (t s : Int) (h0 : 0 ≤ t) (h1 : 1 ≤ s) (h2 : t ≤ 9223372036854775807 - (s - 1)) : wrap64 (wrap64 (t + s) - 1) = t + s - 1 := by
  unfold wrap64; omega

/-- '(pageRequest).position'. -/
theorem position_any (n s t : Int) (h0 : 0 ≤ t) (h1 : 1 ≤ s) (h2 : t ≤ 9223372036854775807 - (s - 1)) (w : World) :
    Calls Try.prog 8 #[.agg #[.int .i64 n, .int .i64 s], .int .i64 t] w fun e w' => e = .returned (.agg #[.int .i64 n, .int .i64 s, .int .i64 t, .int .i64 ((t + s - 1) / s), .bool (decide (n < (t + s - 1) / s)), .bool (decide (1 < n))]) ∧ ∃ c1 c2 : Array Value, w' = (w.alloc (.cells c1 33)).alloc (.cells c2 31) := by
  have e1 := wrap_back t s h0 h1 h2
  go_enter Try.func8, Try.ntmps8
  go_wp2
  exact bodyPost_ret (v := .agg #[.int .i64 n, .int .i64 s, .int .i64 t, .int .i64 ((t + s - 1) / s), .bool (decide (n < (t + s - 1) / s)), .bool (decide (1 < n))]) (by simp [results, Try.results8, go_sem]) rfl ⟨rfl, _, _, rfl⟩

/-- 'ZZPosition'. -/
theorem pos_any (n s t : Int) (h0 : 0 ≤ t) (h1 : 1 ≤ s) (h2 : t ≤ 9223372036854775807 - (s - 1)) (w : World) :
    Calls Try.prog 6 #[.int .i64 n, .int .i64 s, .int .i64 t] w fun e w' => e = .returned (.tuple #[.int .i64 n, .int .i64 s, .int .i64 t, .int .i64 ((t + s - 1) / s), .bool (decide (n < (t + s - 1) / s)), .bool (decide (1 < n))]) ∧ Grown w w' := by
  go_enter Try.func6, Try.ntmps6
  go_wp2_with (go_at_call 8; refine (position_any n s t h0 h1 h2 _).mono ?_; rintro e w' ⟨rfl, c1, c2, rfl⟩)
  go_quiet (fail)
  go_wp2
  exact bodyPost_ret (v := .tuple #[.int .i64 n, .int .i64 s, .int .i64 t, .int .i64 ((t + s - 1) / s), .bool (decide (n < (t + s - 1) / s)), .bool (decide (1 < n))]) (by simp [results, Try.results6, go_sem]) rfl ⟨rfl, by repeat (first | exact Grown.refl _ | apply Grown.drew | apply Grown.alloc)⟩

theorem pages_eq (t s : Int) (h0 : 0 ≤ t) (h1 : 1 ≤ s) : (t % s = 0 → (t + s - 1) / s = t / s) ∧ (t % s ≠ 0 → (t + s - 1) / s = t / s + 1) := by
  have e : t = s * (t / s) + t % s := (Int.mul_ediv_add_emod t s).symm
  have r0 : 0 ≤ t % s := Int.emod_nonneg t (by omega)
  have r1 : t % s < s := Int.emod_lt_of_pos t (by omega)
  generalize t / s = q at *
  generalize t % s = r at *
  subst e
  constructor
  · intro hr; subst hr
    rw [show s * q + 0 + s - 1 = (s - 1) + s * q from by omega, Int.add_mul_ediv_left _ _ (by omega), Int.ediv_eq_zero_of_lt (by omega) (by omega)]; omega
  · intro hr
    rw [show s * q + r + s - 1 = (r - 1) + s * (q + 1) from by rw [Int.mul_add]; omega, Int.add_mul_ediv_left _ _ (by omega), Int.ediv_eq_zero_of_lt (by omega) (by omega)]; omega
theorem pages_pos (t s : Int) (h0 : 0 ≤ t) (h1 : 1 ≤ s) : 0 ≤ (t + s - 1) / s := Int.ediv_nonneg (by omega) (by omega)
theorem pages_prev (t s : Int) (h1 : 1 ≤ s) : (t + s - 1) / s = (t - 1) / s + 1 := by
  rw [show t + s - 1 = (t - 1) + s * 1 from by omega, Int.add_mul_ediv_left _ _ (by omega)]
theorem pages_none (s : Int) (h1 : 1 ≤ s) : (0 + s - 1) / s = 0 := Int.ediv_eq_zero_of_lt (by omega) (by omega)


theorem pages_le (t s : Int) (h0 : 0 ≤ t) (h1 : 1 ≤ s) : (t + s - 1) / s ≤ t + s - 1 := Int.ediv_le_self _ (by omega)
/-- Every fact that the law's tests ask of the number of pages, as inequalities. -/
theorem facts (t s : Int) (h0 : 0 ≤ t) (h1 : 1 ≤ s) : ∃ P, (t + s - 1) / s = P ∧ 0 ≤ P ∧ P ≤ t + s - 1 ∧ P ≤ (t - 1) / s + 1 ∧ (t - 1) / s + 1 ≤ P ∧ (t = 0 → P ≤ 0) ∧ (t % s = 0 → P ≤ t / s ∧ t / s ≤ P) ∧ (t % s ≠ 0 → P ≤ t / s + 1 ∧ t / s + 1 ≤ P) ∧ 0 ≤ t / s ∧ (0 < t → 1 ≤ P) := by
  have e1 := pages_eq t s h0 h1
  have e2 := pages_pos t s h0 h1
  have e3 := pages_prev t s h1
  have e4 := pages_le t s h0 h1
  refine ⟨_, rfl, e2, e4, by omega, by omega, ?_, fun h => ?_, fun h => ?_, Int.ediv_nonneg h0 (by omega), fun h => ?_⟩
  · intro h; subst h; rw [pages_none s h1]; decide
  · have := e1.1 h; omega
  · have := e1.2 h; omega
  · have : 0 ≤ (t - 1) / s := Int.ediv_nonneg (by omega) (by omega)
    omega
theorem ret_bool {b : Bool} (h : b = true) : Ending.returned (.bool b) = .returned (.bool true) := by rw [h]

set_option maxHeartbeats 1000000 in
theorem law (n s t : Int) (h0 : 0 ≤ t) (h1 : 1 ≤ s) (h2 : t ≤ 9223372036854775807 - (s - 1)) (w : World) :
    Calls Try.prog 3 #[.int .i64 n, .int .i64 s, .int .i64 t] w fun e w' => e = .returned (.bool true) ∧ Grown w w' := by
  obtain ⟨P, hP, p0, p1, p2, p3, p4, p5, p6, p7, p8⟩ := facts t s h0 h1
  have e12 : decide (1 < n) = decide (2 ≤ n) := decide_eq_decide.2 (by omega)
  go_enter Try.func3, Try.ntmps3
  go_wp2_with fail
  refine (pos_any n s t h0 h1 h2 _).mono ?_
  rintro e w' ⟨rfl, hg⟩
  rw [hP]
  clear hP
  go_upto_region 4 with fail
  by_cases hr : t % s = 0
  · obtain ⟨q1, q2⟩ := p5 hr
    clear p5 p6
    go_upto_region 7 with fail
    by_cases c1 : n < 0
    · have c6 : n < P := by omega
      go_wp2
      all_goals (go_ret; exact ⟨ret_bool (by first | rfl | (simp; done) | (simp; omega)), hg⟩)
    by_cases c2 : n = 0
    · subst c2
      by_cases c3 : 0 < t
      · have c6 : 0 < P := by omega
        go_wp2
        all_goals (go_ret; exact ⟨ret_bool (by first | rfl | (simp; done) | (simp; omega)), hg⟩)
      · have c6 : P ≤ 0 := p4 (by omega)
        go_wp2
        all_goals (go_ret; exact ⟨ret_bool (by first | rfl | (simp; done) | (simp; omega)), hg⟩)
    by_cases c3 : 0 < t
    · by_cases c4 : n ≤ (t - 1) / s
      · have c6 : n < P := by omega
        go_wp2
        all_goals (go_ret; exact ⟨ret_bool (by first | rfl | (simp; done) | (simp; omega)), hg⟩)
      · have c6 : P ≤ n := by omega
        go_wp2
        all_goals (go_ret; exact ⟨ret_bool (by first | rfl | (simp; done) | (simp; omega)), hg⟩)
    · have c6 : P ≤ n := by omega
      go_wp2
      all_goals (go_ret; exact ⟨ret_bool (by first | rfl | (simp; done) | (simp; omega)), hg⟩)
  · obtain ⟨q1, q2⟩ := p6 hr
    clear p5 p6
    go_upto_region 7 with fail
    by_cases c1 : n < 0
    · have c6 : n < P := by omega
      go_wp2
      all_goals (go_ret; exact ⟨ret_bool (by first | rfl | (simp; done) | (simp; omega)), hg⟩)
    by_cases c2 : n = 0
    · subst c2
      by_cases c3 : 0 < t
      · have c6 : 0 < P := by omega
        go_wp2
        all_goals (go_ret; exact ⟨ret_bool (by first | rfl | (simp; done) | (simp; omega)), hg⟩)
      · have c6 : P ≤ 0 := p4 (by omega)
        go_wp2
        all_goals (go_ret; exact ⟨ret_bool (by first | rfl | (simp; done) | (simp; omega)), hg⟩)
    by_cases c3 : 0 < t
    · by_cases c4 : n ≤ (t - 1) / s
      · have c6 : n < P := by omega
        go_wp2
        all_goals (go_ret; exact ⟨ret_bool (by first | rfl | (simp; done) | (simp; omega)), hg⟩)
      · have c6 : P ≤ n := by omega
        go_wp2
        all_goals (go_ret; exact ⟨ret_bool (by first | rfl | (simp; done) | (simp; omega)), hg⟩)
    · have c6 : P ≤ n := by omega
      go_wp2
      all_goals (go_ret; exact ⟨ret_bool (by first | rfl | (simp; done) | (simp; omega)), hg⟩)

/-- 'FnPagePositionPlacesThePage', at every input. -/
theorem page_any (n s t : Int) (bs : -9223372036854775808 ≤ s ∧ s ≤ 9223372036854775807) (w : World) :
    Calls Try.prog 3 #[.int .i64 n, .int .i64 s, .int .i64 t] w fun e w' => e = .returned (.bool true) ∧ Grown w w' := by
  obtain ⟨b1, b2⟩ := bs
  by_cases h1 : s < 1
  · go_enter Try.func3, Try.ntmps3
    go_wp2
    go_ret
    exact ⟨rfl, Grown.refl _⟩
  by_cases h0 : t < 0
  · go_enter Try.func3, Try.ntmps3
    go_wp2
    go_ret
    exact ⟨rfl, Grown.refl _⟩
  by_cases h2 : 9223372036854775807 - (s - 1) < t
  · go_enter Try.func3, Try.ntmps3
    go_wp2
    go_ret
    exact ⟨rfl, Grown.refl _⟩
  exact law n s t (by omega) (by omega) (by omega) w
end Go.Proofs.Qxb6605417a.Page

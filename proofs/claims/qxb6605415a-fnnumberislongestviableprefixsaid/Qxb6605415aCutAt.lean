/- Where the cuts of a JSON number lie: no Go in sight. -/
import Derived.Test.Qxb6605415aNumAt
namespace Go.Proofs.Qxb6605415a.Num

theorem cutE_hit (l : List Int) : ∀ (k : Nat), k < l.length → (∀ i, i < k → expo (l.getD i 0) = false) → expo (l.getD k 0) = true → cutE l = (l.take k, some (l.drop (k + 1))) := by
  induction l with
  | nil => intro k hk; simp at hk
  | cons c u ih =>
    intro k hk hno hy
    match k with
    | 0 =>
      have : expo c = true := by simpa using hy
      simp [cutE, this]
    | k + 1 =>
      have h0 : expo c = false := by simpa using hno 0 (by omega)
      have := ih k (by simpa using hk) (fun i hi => by simpa using hno (i + 1) (by omega)) (by simpa using hy)
      simp [cutE, h0, this]
theorem cutE_miss (l : List Int) : (∀ i, i < l.length → expo (l.getD i 0) = false) → cutE l = (l, none) := by
  induction l with
  | nil => intro _; rfl
  | cons c u ih =>
    intro hno
    have h0 : expo c = false := by simpa using hno 0 (by simp)
    have := ih (fun i hi => by simpa using hno (i + 1) (by simpa using hi))
    simp [cutE, h0, this]
theorem cutD_hit (l : List Int) : ∀ (k : Nat), k < l.length → (∀ i, i < k → (l.getD i 0 == 46) = false) → (l.getD k 0 == 46) = true → cutD l = (l.take k, some (l.drop (k + 1))) := by
  induction l with
  | nil => intro k hk; simp at hk
  | cons c u ih =>
    intro k hk hno hy
    match k with
    | 0 =>
      have : c = 46 := by simpa using hy
      simp [cutD, this]
    | k + 1 =>
      have h0 : (c == 46) = false := by have := hno 0 (by omega); simpa using this
      have := ih k (by simpa using hk) (fun i hi => by simpa using hno (i + 1) (by omega)) (by simpa using hy)
      simp [cutD, h0, this]
theorem cutD_miss (l : List Int) : (∀ i, i < l.length → (l.getD i 0 == 46) = false) → cutD l = (l, none) := by
  induction l with
  | nil => intro _; rfl
  | cons c u ih =>
    intro hno
    have h0 : (c == 46) = false := by have := hno 0 (by simp); simpa using this
    have := ih (fun i hi => by simpa using hno (i + 1) (by simpa using hi))
    simp [cutD, h0, this]
theorem cutE_len (l : List Int) : (cutE l).1.length ≤ l.length ∧ ∀ r, (cutE l).2 = some r → r.length ≤ l.length := by
  induction l with
  | nil => exact ⟨by simp [cutE], fun r h => by simp [cutE] at h⟩
  | cons c u ih =>
    by_cases h : expo c = true
    · refine ⟨by simp [cutE, h], fun r hr => ?_⟩
      simp [cutE, h] at hr; subst hr; simp
    · refine ⟨by simp [cutE, h]; exact ih.1, fun r hr => ?_⟩
      simp [cutE, h] at hr
      have := ih.2 r hr; simp; omega
theorem allDig_at (l : List Int) : allDig l = true ↔ ∀ i, i < l.length → dig (l.getD i 0) = true := by
  induction l with
  | nil => simp [allDig]
  | cons c u ih =>
    constructor
    · intro h
      simp [allDig] at h
      intro i hi
      match i with
      | 0 => simpa using h.1
      | i + 1 => simpa using ih.1 h.2 i (by simpa using hi)
    · intro h
      simp only [allDig, Bool.and_eq_true]
      exact ⟨by simpa using h 0 (by simp), ih.2 fun i hi => by simpa using h (i + 1) (by simpa using hi)⟩
theorem lead0_at (l : List Int) : lead0 l = (decide (1 < l.length) && (l.getD 0 0 == 48)) := by
  match l with
  | [] => rfl
  | [_] => rfl
  | c :: d :: u => simp [lead0]
theorem some1_at (l : List Int) : some1 l = (!(decide (l.length = 0)) && allDig l) := by
  cases l <;> simp [some1]
theorem unmi_at (l : List Int) : unmi l = if isAt l 0 45 = true then l.drop 1 else l := by
  cases l with
  | nil => rfl
  | cons c u =>
    by_cases h : c = 45
    · simp [unmi, isAt, h]
    · simp [unmi, isAt, h]
theorem unsg_at (l : List Int) : unsg l = if sgnAt l 0 = true then l.drop 1 else l := by
  cases l with
  | nil => rfl
  | cons c u =>
    by_cases h : sgn c = true
    · simp [unsg, sgnAt, h]
    · simp [unsg, sgnAt, h]
end Go.Proofs.Qxb6605415a.Num

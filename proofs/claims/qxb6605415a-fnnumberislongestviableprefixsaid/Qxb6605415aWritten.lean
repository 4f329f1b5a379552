/- The scanner reads a written number whole: no Go in sight. -/
import Derived.Test.Qxb6605415aNumAt
namespace Go.Proofs.Qxb6605415a.Num

/-- What may not stand right behind a written number. -/
def badHead (c : Int) : Bool := dig c || c == 46 || c == 101 || c == 69
def stops : List Int → Bool
  | [] => true
  | c :: _ => !badHead c
def noDig : List Int → Bool
  | [] => true
  | c :: _ => !dig c

theorem dlen_stop (R : List Int) (h : noDig R = true) : dlen R = 0 := by
  cases R with
  | nil => rfl
  | cons c r => simp [noDig] at h; simp [dlen, h]
theorem dlen_app (ds R : List Int) (hd : allDig ds = true) (h : noDig R = true) : dlen (ds ++ R) = ds.length := by
  induction ds with
  | nil => exact dlen_stop R h
  | cons c u ih =>
    simp [allDig] at hd
    rw [List.cons_append, dlen, if_pos hd.1, ih hd.2]; simp
theorem drop_app (ds R : List Int) : (ds ++ R).drop ds.length = R := by simp

theorem whole_app (ds R : List Int) (hd : wholeOk ds = true) (h : noDig R = true) : xWhole (ds ++ R) = (xFrac R).map (ds.length + ·) := by
  cases ds with
  | nil => simp [wholeOk, some1] at hd
  | cons c u =>
    simp only [wholeOk, some1, lead0_cons, Bool.and_eq_true, Bool.not_eq_true'] at hd
    obtain ⟨⟨_, h2⟩, h3⟩ := hd
    by_cases hc : c = 48
    · subst hc
      have hu : u = [] := by cases u with | nil => rfl | cons _ _ => simp at h3
      subst hu
      simp [xWhole]
    · have h4 : dig c = true := by simp [allDig] at h2; exact h2.1
      rw [List.cons_append, xWhole, if_neg (by simp [hc]), if_pos h4, ← List.cons_append, dlen_app _ _ h2 h, drop_app]
theorem num_app (ds R : List Int) (hd : wholeOk (unmi ds) = true) (h : noDig R = true) : xNum (ds ++ R) = (xFrac R).map (ds.length + ·) := by
  cases ds with
  | nil => simp [unmi, wholeOk, some1] at hd
  | cons c u =>
    by_cases hc : c = 45
    · subst hc
      simp [unmi] at hd
      rw [List.cons_append, xNum, if_pos (by simp), whole_app u R hd h, map_map_add]
      simp; congr 1; funext x; omega
    · have e : unmi (c :: u) = c :: u := by simp [unmi, hc]
      rw [e] at hd
      rw [List.cons_append, xNum, if_neg (by simp [hc]), ← List.cons_append, whole_app _ R hd h]
theorem frac_app (ds R : List Int) (hd : wholeOk ds = true) (h : noDig R = true) : xFrac (46 :: (ds ++ R)) = (xExp R).map (1 + ds.length + ·) := by
  simp only [wholeOk, some1, Bool.and_eq_true] at hd
  have h1 : ds.length ≠ 0 := by cases ds <;> simp at hd ⊢
  rw [xFrac, if_pos (by simp), dlen_app _ _ hd.1.2 h, if_neg h1, drop_app]
theorem exp_app (ds R : List Int) (hd : wholeOk (unmi ds) = true) (h : noDig R = true) : xExp (101 :: (ds ++ R)) = some (1 + ds.length) := by
  rw [xExp, if_pos (by decide)]
  cases ds with
  | nil => simp [unmi, wholeOk, some1] at hd
  | cons c u =>
    by_cases hc : c = 45
    · subst hc
      simp [unmi] at hd
      simp only [wholeOk, some1, Bool.and_eq_true] at hd
      have h1 : u.length ≠ 0 := by cases u <;> simp at hd ⊢
      rw [List.cons_append, xSgn, if_pos (by decide), xDig, dlen_app _ _ hd.1.2 h, if_neg h1]
      simp; omega
    · have e : unmi (c :: u) = c :: u := by simp [unmi, hc]
      rw [e] at hd
      simp only [wholeOk, some1, Bool.and_eq_true] at hd
      have h4 : dig c = true := by have := hd.1.2; simp [allDig] at this; exact this.1
      rw [List.cons_append, xSgn, if_neg (by rw [(dig_facts h4).2.1]; decide), xDig, ← List.cons_append, dlen_app _ _ hd.1.2 h, if_neg (by simp)]
      simp
theorem frac_stop (R : List Int) (h : stops R = true) : xFrac R = some 0 := by
  cases R with
  | nil => rfl
  | cons c r =>
    simp [stops, badHead] at h
    simp [xFrac, xExp, expo, h]
theorem exp_stop (R : List Int) (h : stops R = true) : xExp R = some 0 := by
  cases R with
  | nil => rfl
  | cons c r =>
    simp [stops, badHead] at h
    simp [xExp, expo, h]
theorem noDig_stop (R : List Int) (h : stops R = true) : noDig R = true := by
  cases R with
  | nil => rfl
  | cons c r =>
    simp [stops, badHead] at h
    simp [noDig, h]

/-- THE LAW, in its four cases. -/
theorem written00 (a R : List Int) (ha : wholeOk (unmi a) = true) (h : stops R = true) : xNum (a ++ R) = some a.length := by
  rw [num_app a R ha (noDig_stop R h), frac_stop R h]; simp
theorem written10 (a b R : List Int) (ha : wholeOk (unmi a) = true) (hb : wholeOk b = true) (h : stops R = true) : xNum ((a ++ [46] ++ b) ++ R) = some (a ++ [46] ++ b).length := by
  rw [show (a ++ [46] ++ b) ++ R = a ++ (46 :: (b ++ R)) by simp, num_app a _ ha (by rfl), frac_app b R hb (noDig_stop R h), exp_stop R h]; simp; omega
theorem written01 (a c R : List Int) (ha : wholeOk (unmi a) = true) (hc : wholeOk (unmi c) = true) (h : stops R = true) : xNum ((a ++ [101] ++ c) ++ R) = some (a ++ [101] ++ c).length := by
  rw [show (a ++ [101] ++ c) ++ R = a ++ (101 :: (c ++ R)) by simp, num_app a _ ha (by rfl), show xFrac (101 :: (c ++ R)) = xExp (101 :: (c ++ R)) from rfl, exp_app c R hc (noDig_stop R h)]; simp; omega
theorem written11 (a b c R : List Int) (ha : wholeOk (unmi a) = true) (hb : wholeOk b = true) (hc : wholeOk (unmi c) = true) (h : stops R = true) : xNum ((a ++ [46] ++ b ++ [101] ++ c) ++ R) = some (a ++ [46] ++ b ++ [101] ++ c).length := by
  rw [show (a ++ [46] ++ b ++ [101] ++ c) ++ R = a ++ (46 :: (b ++ (101 :: (c ++ R)))) by simp, num_app a _ ha (by rfl), frac_app b _ hb (by rfl), exp_app c R hc (noDig_stop R h)]; simp; omega

/-! ### The same in two steps, whatever the head is made of -/
def noDigDot : List Int → Bool
  | [] => true
  | c :: _ => !dig c && !(c == 46)
def Head1 (hl : List Int) : Prop := ∀ R, noDigDot R = true → xNum (hl ++ R) = (xExp R).map (hl.length + ·)
def Head2 (hl : List Int) : Prop := ∀ R, stops R = true → xNum (hl ++ R) = some hl.length
theorem noDig_ndd (R : List Int) (h : noDigDot R = true) : noDig R = true := by
  cases R with
  | nil => rfl
  | cons c r => simp [noDigDot] at h; simp [noDig, h]
theorem head1_plain (a : List Int) (ha : wholeOk (unmi a) = true) : Head1 a := by
  intro R h
  rw [num_app a R ha (noDig_ndd R h)]
  cases R with
  | nil => rfl
  | cons c r => simp [noDigDot] at h; simp [xFrac, h]
theorem head1_frac (a b : List Int) (ha : wholeOk (unmi a) = true) (hb : wholeOk b = true) : Head1 (a ++ [46] ++ b) := by
  intro R h
  rw [show (a ++ [46] ++ b) ++ R = a ++ (46 :: (b ++ R)) by simp, num_app a _ ha (by rfl), frac_app b R hb (noDig_ndd R h), map_map_add]
  simp; congr 1; funext x; omega
theorem head2_plain (a : List Int) (ha : Head1 a) : Head2 a := by
  intro R h
  have h1 : noDigDot R = true := by
    cases R with
    | nil => rfl
    | cons c r => simp [stops, badHead] at h; simp [noDigDot, h]
  rw [ha R h1, exp_stop R h]; simp
theorem head2_exp (a c : List Int) (ha : Head1 a) (hc : wholeOk (unmi c) = true) : Head2 (a ++ [101] ++ c) := by
  intro R h
  rw [show (a ++ [101] ++ c) ++ R = a ++ (101 :: (c ++ R)) by simp, ha _ (by rfl), exp_app c R hc (noDig_stop R h)]
  simp; omega
end Go.Proofs.Qxb6605415a.Num

/- The scanner by places in a list: no Go in sight. -/
import Derived.Test.Qxb6605415aNum
namespace Go.Proofs.Qxb6605415a.Num

/-- The byte at place i is c. -/
def isAt (d : List Int) (i : Nat) (c : Int) : Bool := decide (i < d.length) && (d.getD i 0 == c)
def digAt (d : List Int) (i : Nat) : Bool := decide (i < d.length) && dig (d.getD i 0)
def expoAt (d : List Int) (i : Nat) : Bool := decide (i < d.length) && expo (d.getD i 0)
def sgnAt (d : List Int) (i : Nat) : Bool := decide (i < d.length) && sgn (d.getD i 0)
/-- Where the digits from place i on end. -/
def dEnd (d : List Int) (i : Nat) : Nat := i + dlen (d.drop i)

theorem drop_lt {d : List Int} {i : Nat} (h : i < d.length) : d.drop i = d.getD i 0 :: d.drop (i + 1) := by
  rw [List.drop_eq_getElem_cons h]; simp [List.getD, h]
theorem drop_ge {d : List Int} {i : Nat} (h : ¬ i < d.length) : d.drop i = [] := List.drop_eq_nil_iff.2 (by omega)

theorem dlen_le (u : List Int) : dlen u ≤ u.length := by
  induction u with
  | nil => simp [dlen]
  | cons c u ih => rw [dlen]; split <;> simp; omega

theorem dEnd_hit {d : List Int} {i : Nat} (h : digAt d i = true) : dEnd d i = dEnd d (i + 1) := by
  simp only [digAt, Bool.and_eq_true, decide_eq_true_eq] at h
  unfold dEnd
  rw [drop_lt h.1, dlen, if_pos h.2]; omega
theorem dEnd_miss {d : List Int} {i : Nat} (h : digAt d i = false) : dEnd d i = i := by
  unfold dEnd
  by_cases hl : i < d.length
  · simp only [digAt, hl, decide_true, Bool.true_and] at h
    rw [drop_lt hl, dlen, h]; simp
  · rw [drop_ge hl]; simp [dlen]
theorem dEnd_le (d : List Int) (i : Nat) (h : i ≤ d.length) : i ≤ dEnd d i ∧ dEnd d i ≤ d.length := by
  unfold dEnd
  have := dlen_le (d.drop i)
  simp at this
  omega
/-- The byte ahead of the digits' end is a digit, where there is one at all. -/
theorem dlen_last (u : List Int) : 0 < dlen u → dig (u.getD (dlen u - 1) 0) = true := by
  induction u with
  | nil => intro h; simp [dlen] at h
  | cons c u ih =>
    intro h
    by_cases hc : dig c = true
    · rw [dlen, if_pos hc]
      by_cases h0 : dlen u = 0
      · simp [h0, hc]
      · have := ih (by omega)
        obtain ⟨m, hm⟩ : ∃ m, dlen u = m + 1 := ⟨dlen u - 1, by omega⟩
        simp [hm] at this ⊢
        exact this
    · rw [dlen, if_neg hc] at h; omega
theorem dEnd_last {d : List Int} {i : Nat} (h : i < dEnd d i) : dig (d.getD (dEnd d i - 1) 0) = true := by
  unfold dEnd at h ⊢
  have := dlen_last (d.drop i) (by omega)
  simp only [List.getD, List.getElem?_drop] at this ⊢
  rw [show i + dlen (List.drop i d) - 1 = i + (dlen (List.drop i d) - 1) from by omega]
  exact this

theorem num_minus {d : List Int} {p : Nat} (h : isAt d p 45 = true) : xNum (d.drop p) = (xWhole (d.drop (p + 1))).map (1 + ·) := by
  simp only [isAt, Bool.and_eq_true, decide_eq_true_eq] at h
  rw [drop_lt h.1, xNum, if_pos h.2]
theorem num_plain {d : List Int} {p : Nat} (h : isAt d p 45 = false) : xNum (d.drop p) = xWhole (d.drop p) := by
  by_cases hl : p < d.length
  · simp only [isAt, hl, decide_true, Bool.true_and] at h
    rw [drop_lt hl, xNum, h]; simp
  · rw [drop_ge hl]; rfl
theorem whole_zero {d : List Int} {i : Nat} (h : isAt d i 48 = true) : xWhole (d.drop i) = (xFrac (d.drop (i + 1))).map (1 + ·) := by
  simp only [isAt, Bool.and_eq_true, decide_eq_true_eq] at h
  rw [drop_lt h.1, xWhole, if_pos h.2]
theorem whole_dig {d : List Int} {i : Nat} (h0 : isAt d i 48 = false) (h : digAt d i = true) : xWhole (d.drop i) = (xFrac (d.drop (dEnd d i))).map (dEnd d i - i + ·) := by
  simp only [digAt, Bool.and_eq_true, decide_eq_true_eq] at h
  simp only [isAt, h.1, decide_true, Bool.true_and] at h0
  unfold dEnd
  rw [← List.drop_drop, show i + dlen (List.drop i d) - i = dlen (List.drop i d) from by omega]
  rw [drop_lt h.1, xWhole, h0, if_pos h.2]; simp
theorem whole_none {d : List Int} {i : Nat} (h0 : isAt d i 48 = false) (h : digAt d i = false) : xWhole (d.drop i) = none := by
  by_cases hl : i < d.length
  · simp only [isAt, hl, decide_true, Bool.true_and] at h0
    simp only [digAt, hl, decide_true, Bool.true_and] at h
    rw [drop_lt hl, xWhole, h0, h]; rfl
  · rw [drop_ge hl]; rfl
theorem frac_plain {d : List Int} {i : Nat} (h : isAt d i 46 = false) : xFrac (d.drop i) = xExp (d.drop i) := by
  by_cases hl : i < d.length
  · simp only [isAt, hl, decide_true, Bool.true_and] at h
    rw [drop_lt hl, xFrac, h]; simp
  · rw [drop_ge hl]; rfl
theorem frac_none {d : List Int} {i : Nat} (h : isAt d i 46 = true) (h0 : dEnd d (i + 1) = i + 1) : xFrac (d.drop i) = none := by
  simp only [isAt, Bool.and_eq_true, decide_eq_true_eq] at h
  unfold dEnd at h0
  rw [drop_lt h.1, xFrac, if_pos h.2, if_pos (by omega)]
theorem frac_some {d : List Int} {i : Nat} (h : isAt d i 46 = true) (h0 : i + 1 < dEnd d (i + 1)) : xFrac (d.drop i) = (xExp (d.drop (dEnd d (i + 1)))).map (dEnd d (i + 1) - i + ·) := by
  simp only [isAt, Bool.and_eq_true, decide_eq_true_eq] at h
  unfold dEnd at h0 ⊢
  have e1 : List.drop (i + 1 + dlen (List.drop (i + 1) d)) d = (List.drop (i + 1) d).drop (dlen (List.drop (i + 1) d)) := by rw [List.drop_drop]
  rw [e1, show i + 1 + dlen (List.drop (i + 1) d) - i = 1 + dlen (List.drop (i + 1) d) from by omega, drop_lt h.1, xFrac, if_pos h.2, if_neg (by omega)]
theorem exp_plain {d : List Int} {i : Nat} (h : expoAt d i = false) : xExp (d.drop i) = some 0 := by
  by_cases hl : i < d.length
  · simp only [expoAt, hl, decide_true, Bool.true_and] at h
    rw [drop_lt hl, xExp, h]; rfl
  · rw [drop_ge hl]; rfl
/-- Where the exponent's digits begin. -/
def expFrom (d : List Int) (i : Nat) : Nat := if sgnAt d i = true then i + 1 else i
theorem sgn_from (d : List Int) (i : Nat) : xSgn (d.drop i) = (xDig (d.drop (expFrom d i))).map (expFrom d i - i + ·) := by
  unfold expFrom
  by_cases hl : i < d.length
  · by_cases hs : sgn (d.getD i 0) = true
    · rw [if_pos (by simp only [sgnAt, hl, decide_true, Bool.true_and]; exact hs), drop_lt hl, xSgn, if_pos hs, show i + 1 - i = 1 from by omega]
    · rw [if_neg (by simp only [sgnAt, hl, decide_true, Bool.true_and]; exact hs), drop_lt hl, xSgn, if_neg hs, show i - i = 0 from by omega]
      simp
  · rw [if_neg (by simp [sgnAt]; omega), drop_ge hl]; simp [xSgn, xDig, dlen]
theorem exp_none {d : List Int} {i : Nat} (h : expoAt d i = true) (h0 : dEnd d (expFrom d (i + 1)) = expFrom d (i + 1)) : xExp (d.drop i) = none := by
  simp only [expoAt, Bool.and_eq_true, decide_eq_true_eq] at h
  unfold dEnd at h0
  rw [drop_lt h.1, xExp, if_pos h.2, sgn_from, xDig, if_pos (by omega)]; rfl
theorem exp_some {d : List Int} {i : Nat} (h : expoAt d i = true) (h0 : expFrom d (i + 1) < dEnd d (expFrom d (i + 1))) : xExp (d.drop i) = some (dEnd d (expFrom d (i + 1)) - i) := by
  simp only [expoAt, Bool.and_eq_true, decide_eq_true_eq] at h
  have hf : i + 1 ≤ expFrom d (i + 1) := by unfold expFrom; split <;> omega
  unfold dEnd at h0 ⊢
  rw [drop_lt h.1, xExp, if_pos h.2, sgn_from, xDig, if_neg (by omega)]
  simp; omega

/-! ### What the scanner has shown so far, from place p on -/
def At1 (d : List Int) (p i : Nat) : Prop := p ≤ i ∧ xNum (d.drop p) = (xWhole (d.drop i)).map (i - p + ·)
def At2 (d : List Int) (p i : Nat) : Prop := p ≤ i ∧ xNum (d.drop p) = (xFrac (d.drop i)).map (i - p + ·)
def At3 (d : List Int) (p i : Nat) : Prop := p ≤ i ∧ xNum (d.drop p) = (xExp (d.drop i)).map (i - p + ·)
theorem map_map_add (o : Option Nat) (a b : Nat) : (o.map (a + ·)).map (b + ·) = o.map (b + a + ·) := by
  cases o <;> simp; omega
theorem at1_minus {d : List Int} {p : Nat} (h : isAt d p 45 = true) : At1 d p (p + 1) := ⟨by omega, by rw [num_minus h, show p + 1 - p = 1 from by omega]⟩
theorem at1_plain {d : List Int} {p : Nat} (h : isAt d p 45 = false) : At1 d p p := ⟨by omega, by rw [num_plain h, show p - p = 0 from by omega]; simp⟩
theorem at1_none {d : List Int} {p i : Nat} (s : At1 d p i) (h0 : isAt d i 48 = false) (h : digAt d i = false) : xNum (d.drop p) = none := by
  rw [s.2, whole_none h0 h]; rfl
theorem at2_zero {d : List Int} {p i : Nat} (s : At1 d p i) (h : isAt d i 48 = true) : At2 d p (i + 1) := by
  obtain ⟨s1, s2⟩ := s
  exact ⟨by omega, by rw [s2, whole_zero h, map_map_add, show i - p + 1 = i + 1 - p from by omega]⟩
theorem at2_dig {d : List Int} {p i : Nat} (s : At1 d p i) (h0 : isAt d i 48 = false) (h : digAt d i = true) : At2 d p (dEnd d i) := by
  obtain ⟨s1, s2⟩ := s
  have : i ≤ dEnd d i := by unfold dEnd; omega
  exact ⟨by omega, by rw [s2, whole_dig h0 h, map_map_add, show i - p + (dEnd d i - i) = dEnd d i - p from by omega]⟩
theorem at2_none {d : List Int} {p i : Nat} (s : At2 d p i) (h : isAt d i 46 = true) (h0 : dEnd d (i + 1) = i + 1) : xNum (d.drop p) = none := by
  rw [s.2, frac_none h h0]; rfl
theorem at3_plain {d : List Int} {p i : Nat} (s : At2 d p i) (h : isAt d i 46 = false) : At3 d p i := ⟨s.1, by rw [s.2, frac_plain h]⟩
theorem at3_frac {d : List Int} {p i : Nat} (s : At2 d p i) (h : isAt d i 46 = true) (h0 : i + 1 < dEnd d (i + 1)) : At3 d p (dEnd d (i + 1)) := by
  obtain ⟨s1, s2⟩ := s
  exact ⟨by omega, by rw [s2, frac_some h h0, map_map_add, show i - p + (dEnd d (i + 1) - i) = dEnd d (i + 1) - p from by omega]⟩
theorem at3_none {d : List Int} {p i : Nat} (s : At3 d p i) (h : expoAt d i = true) (h0 : dEnd d (expFrom d (i + 1)) = expFrom d (i + 1)) : xNum (d.drop p) = none := by
  rw [s.2, exp_none h h0]; rfl
theorem at4_plain {d : List Int} {p i : Nat} (s : At3 d p i) (h : expoAt d i = false) : xNum (d.drop p) = some (i - p) := by
  rw [s.2, exp_plain h]; rfl
theorem at4_exp {d : List Int} {p i : Nat} (s : At3 d p i) (h : expoAt d i = true) (h0 : expFrom d (i + 1) < dEnd d (expFrom d (i + 1))) : xNum (d.drop p) = some (dEnd d (expFrom d (i + 1)) - p) := by
  have hf : i + 1 ≤ expFrom d (i + 1) := by unfold expFrom; split <;> omega
  obtain ⟨s1, s2⟩ := s
  rw [s2, exp_some h h0]; simp; omega
end Go.Proofs.Qxb6605415a.Num

/- White space by places in a list: no Go in sight. -/
namespace Go.Proofs.Qxb6003628a.Space

/-- JSON's white space. -/
def sp (c : Int) : Bool := c == 32 || c == 9 || c == 10 || c == 13
def splen : List Int → Nat
  | [] => 0
  | c :: u => if sp c then splen u + 1 else 0
/-- The first place from i on that is no white space. -/
def nx (d : List Int) (i : Nat) : Nat := i + splen (d.drop i)
def allSp : List Int → Bool
  | [] => true
  | c :: u => sp c && allSp u

theorem drop_lt {d : List Int} {i : Nat} (h : i < d.length) : d.drop i = d.getD i 0 :: d.drop (i + 1) := by
  rw [List.drop_eq_getElem_cons h]; simp [List.getD, h]
theorem drop_ge {d : List Int} {i : Nat} (h : ¬ i < d.length) : d.drop i = [] := List.drop_eq_nil_iff.2 (by omega)
theorem nx_hit {d : List Int} {i : Nat} (h : i < d.length) (hs : sp (d.getD i 0) = true) : nx d i = nx d (i + 1) := by
  unfold nx
  rw [drop_lt h, splen, if_pos hs]; omega
theorem nx_miss {d : List Int} {i : Nat} (hs : i < d.length → sp (d.getD i 0) = false) : nx d i = i := by
  unfold nx
  by_cases h : i < d.length
  · rw [drop_lt h, splen, hs h]; simp
  · rw [drop_ge h]; rfl
theorem splen_le (u : List Int) : splen u ≤ u.length := by
  induction u with
  | nil => simp [splen]
  | cons c u ih => rw [splen]; split <;> simp; omega
theorem nx_le (d : List Int) (i : Nat) (h : i ≤ d.length) : i ≤ nx d i ∧ nx d i ≤ d.length := by
  unfold nx
  have := splen_le (d.drop i)
  simp at this
  omega
theorem splen_at (u : List Int) : (∀ j, j < splen u → sp (u.getD j 0) = true) ∧ (splen u < u.length → sp (u.getD (splen u) 0) = false) := by
  induction u with
  | nil => exact ⟨fun j hj => by simp [splen] at hj, fun h => by simp at h⟩
  | cons c u ih =>
    by_cases hc : sp c = true
    · rw [splen, if_pos hc]
      constructor
      · intro j hj
        match j with
        | 0 => simpa using hc
        | j + 1 => simpa using ih.1 j (by omega)
      · intro h
        simpa using ih.2 (by simpa using h)
    · rw [splen, if_neg hc]
      exact ⟨fun j hj => by omega, fun _ => by simpa using hc⟩
theorem nx_between {d : List Int} {i j : Nat} (h1 : i ≤ j) (h2 : j < nx d i) : sp (d.getD j 0) = true := by
  unfold nx at h2
  have := (splen_at (d.drop i)).1 (j - i) (by omega)
  simp only [List.getD, List.getElem?_drop] at this ⊢
  rw [show i + (j - i) = j from by omega] at this
  exact this
theorem nx_at {d : List Int} {i : Nat} (h : nx d i < d.length) : sp (d.getD (nx d i) 0) = false := by
  have := (splen_at (d.drop i)).2 (by unfold nx at h; simp; omega)
  unfold nx
  simp only [List.getD, List.getElem?_drop] at this ⊢
  exact this
theorem nx_nx (d : List Int) (i : Nat) : nx d (nx d i) = nx d i := nx_miss nx_at

theorem allSp_at (l : List Int) : allSp l = true ↔ ∀ i, i < l.length → sp (l.getD i 0) = true := by
  induction l with
  | nil => simp [allSp]
  | cons c u ih =>
    constructor
    · intro h
      simp [allSp] at h
      intro i hi
      match i with
      | 0 => simpa using h.1
      | i + 1 => simpa using ih.1 h.2 i (by simpa using hi)
    · intro h
      simp only [allSp, Bool.and_eq_true]
      exact ⟨by simpa using h 0 (by simp), ih.2 fun i hi => by simpa using h (i + 1) (by simpa using hi)⟩
theorem splen_app (ws R : List Int) (h : allSp ws = true) : splen (ws ++ R) = ws.length + splen R := by
  induction ws with
  | nil => simp
  | cons c u ih =>
    simp [allSp] at h
    rw [List.cons_append, splen, if_pos h.1, ih h.2]; simp; omega
/-- THE LAW of the join: white space put in at p moves the landing place by its length. -/
theorem join_nx (d ws : List Int) (p : Nat) (hp : p ≤ d.length) (h : allSp ws = true) : nx (d.take p ++ ws ++ d.drop p) p = nx d p + ws.length := by
  unfold nx
  have e : (d.take p ++ ws ++ d.drop p).drop p = ws ++ d.drop p := by
    rw [List.append_assoc, List.drop_append_of_le_length (by simp; omega)]
    rw [List.drop_eq_nil_iff.2 (by simp; omega)]; rfl
  rw [e, splen_app ws _ h]; omega
theorem join_at (d ws : List Int) (p : Nat) (hp : p ≤ d.length) (h : allSp ws = true) : (d.take p ++ ws ++ d.drop p).getD (nx (d.take p ++ ws ++ d.drop p) p) 0 = d.getD (nx d p) 0 := by
  rw [join_nx d ws p hp h]
  have h1 := nx_le d p hp
  have e : (d.take p ++ ws).length ≤ nx d p + ws.length := by simp; omega
  simp only [List.getD]
  rw [List.getElem?_append_right e, List.getElem?_drop]
  congr 2; simp; omega
end Go.Proofs.Qxb6003628a.Space

/- The plain law of JSON numbers: no Go in sight. -/
namespace Go.Proofs.Qxb6605415a.Num

/-- A decimal digit's byte. -/
def dig (c : Int) : Bool := decide (48 ≤ c) && decide (c ≤ 57)
def expo (c : Int) : Bool := c == 101 || c == 69
def sgn (c : Int) : Bool := c == 43 || c == 45

/-- The digits at a list's head. -/
def dlen : List Int → Nat
  | [] => 0
  | c :: u => if dig c then dlen u + 1 else 0

def allDig : List Int → Bool
  | [] => true
  | c :: u => dig c && allDig u

/-- Cut at the first 'e' or 'E'. -/
def cutE : List Int → List Int × Option (List Int)
  | [] => ([], none)
  | c :: u => if expo c then ([], some u) else (c :: (cutE u).1, (cutE u).2)
/-- Cut at the first dot. -/
def cutD : List Int → List Int × Option (List Int)
  | [] => ([], none)
  | c :: u => if c == 46 then ([], some u) else (c :: (cutD u).1, (cutD u).2)

def some1 (u : List Int) : Bool := !u.isEmpty && allDig u
/-- A sign at the head is struck. -/
def unsg : List Int → List Int
  | [] => []
  | c :: u => if sgn c then u else c :: u
def unmi : List Int → List Int
  | [] => []
  | c :: u => if c == 45 then u else c :: u
def lead0 : List Int → Bool
  | c :: _ :: _ => c == 48
  | _ => false
def wholeOk (w : List Int) : Bool := some1 w && !lead0 w
def fracOk : Option (List Int) → Bool
  | none => true
  | some f => some1 f
def expOk : Option (List Int) → Bool
  | none => true
  | some e => some1 (unsg e)

/-- What 'isJSONNumber' answers. -/
def isNum (u : List Int) : Bool := wholeOk (unmi (cutD (cutE u).1).1) && fracOk (cutD (cutE u).1).2 && expOk (cutE u).2

/-- The machine: 0 start · 1 behind '-' · 2 behind a leading 0 · 3 in the whole part · 4 behind the dot · 5 in the fraction · 6 behind e · 7 behind e's sign · 8 in the exponent. -/
def step (s : Nat) (c : Int) : Option Nat :=
  match s with
  | 0 => if c == 45 then some 1 else if c == 48 then some 2 else if dig c then some 3 else none
  | 1 => if c == 48 then some 2 else if dig c then some 3 else none
  | 2 => if c == 46 then some 4 else if expo c then some 6 else none
  | 3 => if c == 46 then some 4 else if expo c then some 6 else if dig c then some 3 else none
  | 4 => if dig c then some 5 else none
  | 5 => if expo c then some 6 else if dig c then some 5 else none
  | 6 => if sgn c then some 7 else if dig c then some 8 else none
  | 7 => if dig c then some 8 else none
  | 8 => if dig c then some 8 else none
  | _ => none
def acc (s : Nat) : Bool := s == 2 || s == 3 || s == 5 || s == 8

/-- Whether the rest u, read from state s, makes a whole number. -/
def okFrom (s : Nat) (u : List Int) : Bool :=
  match s with
  | 0 => isNum u
  | 1 => wholeOk (cutD (cutE u).1).1 && fracOk (cutD (cutE u).1).2 && expOk (cutE u).2
  | 2 => (cutD (cutE u).1).1.isEmpty && fracOk (cutD (cutE u).1).2 && expOk (cutE u).2
  | 3 => allDig (cutD (cutE u).1).1 && fracOk (cutD (cutE u).1).2 && expOk (cutE u).2
  | 4 => some1 (cutE u).1 && expOk (cutE u).2
  | 5 => allDig (cutE u).1 && expOk (cutE u).2
  | 6 => some1 (unsg u)
  | 7 => some1 u
  | 8 => allDig u
  | _ => false

theorem expo_dig {c : Int} (h : expo c = true) : dig c = false := by
  simp [expo, dig] at *; omega
theorem dot_dig : dig 46 = false := by decide

theorem okFrom_nil (s : Nat) (h : s ≤ 8) : okFrom s [] = acc s := by
  match s, h with
  | 0, _ => rfl
  | 1, _ => rfl
  | 2, _ => rfl
  | 3, _ => rfl
  | 4, _ => rfl
  | 5, _ => rfl
  | 6, _ => rfl
  | 7, _ => rfl
  | 8, _ => rfl

theorem step_le {s s' : Nat} {c : Int} (h : step s c = some s') : s' ≤ 8 := by
  unfold step at h
  repeat' (split at h)
  all_goals (simp at h; try omega)


/-- The class of a byte. -/
theorem classes (c : Int) : (c = 45) ∨ (c = 48) ∨ (dig c = true ∧ c ≠ 48) ∨ c = 46 ∨ expo c = true ∨ c = 43 ∨ (c ≠ 45 ∧ c ≠ 43 ∧ c ≠ 46 ∧ c ≠ 48 ∧ dig c = false ∧ expo c = false) := by
  simp [dig, expo]; omega
theorem dig_facts {c : Int} (h : dig c = true) : expo c = false ∧ sgn c = false ∧ (c == 46) = false ∧ (c == 45) = false := by
  simp [dig, expo, sgn] at *; omega
theorem expo_facts {c : Int} (h : expo c = true) : dig c = false ∧ sgn c = false ∧ (c == 46) = false ∧ (c == 45) = false ∧ (c == 48) = false := by
  simp [dig, expo, sgn] at *; omega

theorem lead0_cons (c : Int) (u : List Int) : lead0 (c :: u) = (!u.isEmpty && c == 48) := by
  cases u <;> simp [lead0]

theorem okFrom_cons (s : Nat) (hs : s ≤ 8) (c : Int) (u : List Int) : okFrom s (c :: u) = (match step s c with | none => false | some s' => okFrom s' u) := by
  rcases classes c with rfl | rfl | ⟨h, h0⟩ | rfl | h | rfl | ⟨h1, h2, h3, h4, h5, h6⟩
  · match s, hs with
    | 0, _ => simp [okFrom, step, isNum, cutE, cutD, unmi, expo]
    | 1, _ => simp [okFrom, step, cutE, cutD, expo, dig, wholeOk, some1, allDig]
    | 2, _ => simp [okFrom, step, cutE, cutD, expo]
    | 3, _ => simp [okFrom, step, cutE, cutD, expo, dig, allDig]
    | 4, _ => simp [okFrom, step, cutE, expo, dig, some1, allDig]
    | 5, _ => simp [okFrom, step, cutE, expo, dig, allDig]
    | 6, _ => simp [okFrom, step, unsg, sgn]
    | 7, _ => simp [okFrom, step, some1, allDig, dig]
    | 8, _ => simp [okFrom, step, allDig, dig]
  · match s, hs with
    | 0, _ => simp [okFrom, step, isNum, cutE, cutD, unmi, expo, wholeOk, some1, allDig, dig, lead0_cons]; cases (cutD (cutE u).1).1 <;> simp [allDig]
    | 1, _ => simp [okFrom, step, cutE, cutD, expo, wholeOk, some1, allDig, dig, lead0_cons]; cases (cutD (cutE u).1).1 <;> simp [allDig]
    | 2, _ => simp [okFrom, step, cutE, cutD, expo]
    | 3, _ => simp [okFrom, step, cutE, cutD, expo, dig, allDig]
    | 4, _ => simp [okFrom, step, cutE, expo, dig, some1, allDig]
    | 5, _ => simp [okFrom, step, cutE, expo, dig, allDig]
    | 6, _ => simp [okFrom, step, unsg, sgn, dig, some1, allDig]
    | 7, _ => simp [okFrom, step, some1, allDig, dig]
    | 8, _ => simp [okFrom, step, allDig, dig]
  · obtain ⟨g1, g2, g3, g4⟩ := dig_facts h
    have g5 : (c == 48) = false := by simpa using h0
    match s, hs with
    | 0, _ => simp [okFrom, step, isNum, cutE, cutD, unmi, wholeOk, some1, allDig, lead0_cons, h, g1, g3, g4, g5]
    | 1, _ => simp [okFrom, step, cutE, cutD, wholeOk, some1, allDig, lead0_cons, h, g1, g3, g5]
    | 2, _ => simp [okFrom, step, cutE, cutD, g1, g3]
    | 3, _ => simp [okFrom, step, cutE, cutD, allDig, h, g1, g3]
    | 4, _ => simp [okFrom, step, cutE, some1, allDig, h, g1]
    | 5, _ => simp [okFrom, step, cutE, allDig, h, g1]
    | 6, _ => simp [okFrom, step, unsg, some1, allDig, h, g2]
    | 7, _ => simp [okFrom, step, some1, allDig, h]
    | 8, _ => simp [okFrom, step, allDig, h]
  · match s, hs with
    | 0, _ => simp [okFrom, step, isNum, cutE, cutD, unmi, expo, wholeOk, some1, dig]
    | 1, _ => simp [okFrom, step, cutE, cutD, expo, wholeOk, some1, dig]
    | 2, _ => simp [okFrom, step, cutE, cutD, expo, fracOk]
    | 3, _ => simp [okFrom, step, cutE, cutD, expo, allDig, fracOk]
    | 4, _ => simp [okFrom, step, cutE, expo, dig, some1, allDig]
    | 5, _ => simp [okFrom, step, cutE, expo, dig, allDig]
    | 6, _ => simp [okFrom, step, unsg, sgn, dig, some1, allDig]
    | 7, _ => simp [okFrom, step, some1, allDig, dig]
    | 8, _ => simp [okFrom, step, allDig, dig]
  · obtain ⟨g1, g2, g3, g4, g5⟩ := expo_facts h
    match s, hs with
    | 0, _ => simp [okFrom, step, isNum, cutE, cutD, unmi, wholeOk, some1, h, g1, g4, g5]
    | 1, _ => simp [okFrom, step, cutE, cutD, wholeOk, some1, h, g1, g5]
    | 2, _ => simp [okFrom, step, cutE, cutD, fracOk, expOk, h, g3]
    | 3, _ => simp [okFrom, step, cutE, cutD, allDig, fracOk, expOk, h, g3]
    | 4, _ => simp [okFrom, step, cutE, some1, h, g1]
    | 5, _ => simp [okFrom, step, cutE, allDig, expOk, h]
    | 6, _ => simp [okFrom, step, unsg, some1, allDig, g1, g2]
    | 7, _ => simp [okFrom, step, some1, allDig, g1]
    | 8, _ => simp [okFrom, step, allDig, g1]
  · match s, hs with
    | 0, _ => simp [okFrom, step, isNum, cutE, cutD, unmi, expo, wholeOk, some1, allDig, dig]
    | 1, _ => simp [okFrom, step, cutE, cutD, expo, dig, wholeOk, some1, allDig]
    | 2, _ => simp [okFrom, step, cutE, cutD, expo]
    | 3, _ => simp [okFrom, step, cutE, cutD, expo, dig, allDig]
    | 4, _ => simp [okFrom, step, cutE, expo, dig, some1, allDig]
    | 5, _ => simp [okFrom, step, cutE, expo, dig, allDig]
    | 6, _ => simp [okFrom, step, unsg, sgn]
    | 7, _ => simp [okFrom, step, some1, allDig, dig]
    | 8, _ => simp [okFrom, step, allDig, dig]
  · have g1 : (c == 45) = false := by simpa using h1
    have g2 : (c == 43) = false := by simpa using h2
    have g3 : (c == 46) = false := by simpa using h3
    have g4 : (c == 48) = false := by simpa using h4
    have g5 : sgn c = false := by simp [sgn, h1, h2]
    match s, hs with
    | 0, _ => simp [okFrom, step, isNum, cutE, cutD, unmi, wholeOk, some1, allDig, h5, h6, g1, g3, g4]
    | 1, _ => simp [okFrom, step, cutE, cutD, wholeOk, some1, allDig, h5, h6, g3, g4]
    | 2, _ => simp [okFrom, step, cutE, cutD, h6, g3]
    | 3, _ => simp [okFrom, step, cutE, cutD, allDig, h5, h6, g3]
    | 4, _ => simp [okFrom, step, cutE, some1, allDig, h5, h6]
    | 5, _ => simp [okFrom, step, cutE, allDig, h5, h6]
    | 6, _ => simp [okFrom, step, unsg, some1, allDig, h5, g5]
    | 7, _ => simp [okFrom, step, some1, allDig, h5]
    | 8, _ => simp [okFrom, step, allDig, h5]

/-- The machine's run over a whole list. -/
def run (s : Nat) : List Int → Option Nat
  | [] => some s
  | c :: u => match step s c with | none => none | some s' => run s' u

theorem okFrom_run (u : List Int) : ∀ s, s ≤ 8 → okFrom s u = (match run s u with | none => false | some f => acc f) := by
  induction u with
  | nil => intro s hs; rw [okFrom_nil s hs]; rfl
  | cons c u ih =>
    intro s hs
    rw [okFrom_cons s hs, run]
    cases h : step s c with
    | none => rfl
    | some s' => exact ih s' (step_le h)

theorem isNum_run (u : List Int) : isNum u = (match run 0 u with | none => false | some f => acc f) := okFrom_run u 0 (by omega)

theorem run_le (u : List Int) : ∀ s f, s ≤ 8 → run s u = some f → f ≤ 8 := by
  induction u with
  | nil => intro s f hs h; simp [run] at h; omega
  | cons c u ih =>
    intro s f hs h
    rw [run] at h
    cases h' : step s c with
    | none => rw [h'] at h; simp at h
    | some s' => rw [h'] at h; exact ih s' f (step_le h') h

theorem run_append (u v : List Int) : ∀ s, run s (u ++ v) = (match run s u with | none => none | some f => run f v) := by
  induction u with
  | nil => intro s; rfl
  | cons c u ih =>
    intro s
    rw [List.cons_append, run, run]
    cases step s c with
    | none => rfl
    | some s' => exact ih s'

/-- What 'beginsNumber' answers. -/
def begins (u : List Int) : Bool := isNum u || isNum (u ++ [48])
theorem acc_zero (f : Nat) (h : f ≤ 8) : acc f = true ∨ (∃ g, step f 48 = some g ∧ acc g = true) := by
  match f, h with
  | 0, _ => exact .inr ⟨2, rfl, rfl⟩
  | 1, _ => exact .inr ⟨2, rfl, rfl⟩
  | 2, _ => exact .inl rfl
  | 3, _ => exact .inl rfl
  | 4, _ => exact .inr ⟨5, rfl, rfl⟩
  | 5, _ => exact .inl rfl
  | 6, _ => exact .inr ⟨8, rfl, rfl⟩
  | 7, _ => exact .inr ⟨8, rfl, rfl⟩
  | 8, _ => exact .inl rfl
theorem begins_run (u : List Int) : begins u = (run 0 u).isSome := by
  unfold begins
  rw [isNum_run, isNum_run, run_append]
  cases h : run 0 u with
  | none => rfl
  | some f =>
    rcases acc_zero f (run_le u 0 f (by omega) h) with g | ⟨g, e, g'⟩
    · simp [g]
    · simp [run, e, g']

/-- How far the machine lives, and where it stands then. -/
def greedy (s : Nat) : List Int → Nat × Nat
  | [] => (0, s)
  | c :: u => match step s c with | none => (0, s) | some s' => ((greedy s' u).1 + 1, (greedy s' u).2)

theorem greedy_le (u : List Int) : ∀ s, (greedy s u).1 ≤ u.length := by
  induction u with
  | nil => intro s; simp [greedy]
  | cons c u ih =>
    intro s
    rw [greedy]
    cases h : step s c with
    | none => simp
    | some s' => have := ih s'; simp; omega

theorem run_greedy (u : List Int) : ∀ s, run s (u.take (greedy s u).1) = some (greedy s u).2 := by
  induction u with
  | nil => intro s; rfl
  | cons c u ih =>
    intro s
    rw [greedy]
    cases h : step s c with
    | none => simp [run]
    | some s' => simp [run, h, ih s']

theorem run_take (u : List Int) : ∀ s j, j ≤ u.length → ((run s (u.take j)).isSome = true ↔ j ≤ (greedy s u).1) := by
  induction u with
  | nil => intro s j hj; simp [run, greedy] at *; exact hj
  | cons c u ih =>
    intro s j hj
    match j with
    | 0 => simp [run]
    | j + 1 =>
      rw [List.take_succ_cons, run, greedy]
      cases h : step s c with
      | none => simp
      | some s' => simp at hj; simp only; rw [ih s' j hj]; simp

/-- The longest run of bytes that can still begin a number. -/
def best (t : List Int) : Nat := (greedy 0 t).1
theorem best_le (t : List Int) : best t ≤ t.length := greedy_le t 0
theorem begins_take (t : List Int) (j : Nat) (h : j ≤ t.length) : begins (t.take j) = decide (j ≤ best t) := by
  rw [begins_run, Bool.eq_iff_iff, run_take t 0 j h, decide_eq_true_iff]; rfl
theorem isNum_best (t : List Int) : isNum (t.take (best t)) = acc (greedy 0 t).2 := by
  rw [isNum_run]; unfold best; rw [run_greedy]

/-! ### The scanner, on what is left -/
def res (x : Nat × Nat) : Option Nat := if acc x.2 then some x.1 else none
def xDig (u : List Int) : Option Nat := if dlen u = 0 then none else some (dlen u)
def xSgn : List Int → Option Nat
  | [] => none
  | c :: r => if sgn c then (xDig r).map (1 + ·) else xDig (c :: r)
def xExp : List Int → Option Nat
  | [] => some 0
  | c :: r => if expo c then (xSgn r).map (1 + ·) else some 0
def xFrac : List Int → Option Nat
  | [] => some 0
  | c :: r => if c == 46 then (if dlen r = 0 then none else (xExp (r.drop (dlen r))).map (1 + dlen r + ·)) else xExp (c :: r)
def xWhole : List Int → Option Nat
  | [] => none
  | c :: r => if c == 48 then (xFrac r).map (1 + ·) else if dig c then (xFrac ((c :: r).drop (dlen (c :: r)))).map (dlen (c :: r) + ·) else none
def xNum : List Int → Option Nat
  | [] => none
  | c :: r => if c == 45 then (xWhole r).map (1 + ·) else xWhole (c :: r)

theorem res_cons (s : Nat) (c : Int) (u : List Int) : res (greedy s (c :: u)) = (match step s c with | none => res (0, s) | some s' => (res (greedy s' u)).map (1 + ·)) := by
  rw [greedy]
  cases h : step s c with
  | none => rfl
  | some s' =>
    simp only [res]
    cases acc (greedy s' u).2 <;> simp; omega

theorem res8 (u : List Int) : res (greedy 8 u) = some (dlen u) := by
  induction u with
  | nil => rfl
  | cons c u ih =>
    rw [res_cons]
    by_cases h : dig c = true
    · simp [step, h, ih, dlen]; omega
    · simp [step, h, dlen, res, acc]
theorem res7 (u : List Int) : res (greedy 7 u) = xDig u := by
  cases u with
  | nil => rfl
  | cons c u =>
    rw [res_cons]
    by_cases h : dig c = true
    · simp [step, h, res8, xDig, dlen]; omega
    · simp [step, h, xDig, dlen, res, acc]
theorem res6 (u : List Int) : res (greedy 6 u) = xSgn u := by
  cases u with
  | nil => rfl
  | cons c u =>
    rw [res_cons]
    by_cases h1 : sgn c = true
    · simp [step, h1, res7, xSgn]
    · by_cases h : dig c = true
      · simp [step, h1, h, res8, xSgn, xDig, dlen]; omega
      · simp [step, h1, h, xSgn, xDig, dlen, res, acc]
theorem res5 (u : List Int) : res (greedy 5 u) = (xExp (u.drop (dlen u))).map (dlen u + ·) := by
  induction u with
  | nil => rfl
  | cons c u ih =>
    rw [res_cons]
    by_cases h : dig c = true
    · obtain ⟨g1, -, -, -⟩ := dig_facts h
      simp [step, h, g1, ih, dlen]
      congr 1; funext x; simp; omega
    · by_cases h1 : expo c = true
      · simp [step, h, h1, res6, xExp, dlen]; rfl
      · simp [step, h, h1, xExp, dlen, res, acc]
theorem res4 (u : List Int) : res (greedy 4 u) = if dlen u = 0 then none else (xExp (u.drop (dlen u))).map (dlen u + ·) := by
  cases u with
  | nil => rfl
  | cons c u =>
    rw [res_cons]
    by_cases h : dig c = true
    · simp [step, h, res5, dlen]
      congr 1; funext x; simp; omega
    · simp [step, h, dlen, res, acc]
theorem res2 (u : List Int) : res (greedy 2 u) = xFrac u := by
  cases u with
  | nil => rfl
  | cons c u =>
    rw [res_cons]
    by_cases h : c = 46
    · subst h
      simp [step, res4, xFrac]
      split
      · rfl
      · simp; congr 1; funext x; simp; omega
    · by_cases h1 : expo c = true
      · simp [step, h, h1, res6, xFrac, xExp]
      · simp [step, h, h1, xFrac, xExp, res, acc]
theorem res3 (u : List Int) : res (greedy 3 u) = (xFrac (u.drop (dlen u))).map (dlen u + ·) := by
  induction u with
  | nil => rfl
  | cons c u ih =>
    rw [res_cons]
    by_cases h : dig c = true
    · obtain ⟨g1, -, g2, -⟩ := dig_facts h
      simp [step, h, g1, g2, ih, dlen]
      congr 1; funext x; simp; omega
    · have hd : (c :: u).drop (dlen (c :: u)) = c :: u := by simp [dlen, h]
      have h0 : dlen (c :: u) = 0 := by simp [dlen, h]
      rw [hd, h0, ← res2, res_cons]
      by_cases h2 : c = 46
      · subst h2; simp [step]; rfl
      · by_cases h1 : expo c = true
        · simp [step, h2, h1]; rfl
        · simp [step, h2, h1, h, res, acc]
theorem res1 (u : List Int) : res (greedy 1 u) = xWhole u := by
  cases u with
  | nil => rfl
  | cons c u =>
    rw [res_cons]
    by_cases h : c = 48
    · subst h; simp [step, res2, xWhole]
    · by_cases h1 : dig c = true
      · simp [step, h, h1, res3, xWhole, dlen]
        congr 1; funext x; simp; omega
      · simp [step, h, h1, xWhole, res, acc]
theorem res0 (u : List Int) : res (greedy 0 u) = xNum u := by
  cases u with
  | nil => rfl
  | cons c u =>
    rw [res_cons]
    by_cases h : c = 45
    · subst h; simp [step, res1, xNum]
    · have : xNum (c :: u) = xWhole (c :: u) := by simp [xNum, h]
      rw [this, ← res1, res_cons]
      simp [step, h, res, acc]

/-- THE LAW: the scanner takes the longest run that can still begin a number, and says yes just when that run is a number. -/
theorem xNum_best (t : List Int) : xNum t = if isNum (t.take (best t)) then some (best t) else none := by
  rw [isNum_best, ← res0]; rfl
end Go.Proofs.Qxb6605415a.Num

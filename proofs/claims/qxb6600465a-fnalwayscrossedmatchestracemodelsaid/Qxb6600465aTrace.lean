/- Traces and crossings of a tree that is given by its code: no walk in sight (of the model only 'bits', the bitwise operations on int). -/
import Derived.Test.Qxb6600465aRows
namespace Go.Proofs.Qxb6600465a.Ere

/-! ### Sets of traces: four bits -/
def hasB (m : Int) (i : Nat) : Bool := bits .and .i64 m (2 ^ i) != 0
def inn (b : Int) (i : Nat) : Nat → Int → Int
  | 0, out => out
  | j + 1, out => if hasB b j then bits .or .i64 (inn b i j out) (2 ^ (i ||| j)) else inn b i j out
def ou (a b : Int) : Nat → Int
  | 0 => 0
  | i + 1 => if hasB a i then inn b i 4 (ou a b i) else ou a b i
/-- What 'joinAll' answers. -/
def jn (a b : Int) : Int := ou a b 4
def orI (a b : Int) : Int := bits .or .i64 a b
def c5 (m : Int) : Bool := bits .and .i64 m 5 == 0
def c3 (m : Int) : Bool := bits .and .i64 m 3 == 0
def pw (s : Int) : Nat → Int
  | 0 => 1
  | k + 1 => jn (pw s k) s
/-- What the loop over the counts has gathered behind k rounds. -/
def ro (s mn mx : Int) : Nat → Int
  | 0 => 0
  | k + 1 => if mn ≤ (k : Int) ∧ (mx < 0 ∨ (k : Int) ≤ mx) then orI (ro s mn mx k) (pw s k) else ro s mn mx k
def mxOf (mn : Int) (sel : Nat) : Int := if sel = 0 then -1 else if sel = 1 then mn else mn + 1

theorem jn_fin : ∀ a b : Fin 16, 0 ≤ jn a.val b.val ∧ jn a.val b.val ≤ 15 ∧ c5 (jn a.val b.val) = (c5 a.val || c5 b.val) ∧ c3 (jn a.val b.val) = (c3 a.val || c3 b.val) := by decide +kernel
theorem or_fin : ∀ a b : Fin 16, 0 ≤ orI a.val b.val ∧ orI a.val b.val ≤ 15 ∧ c5 (orI a.val b.val) = (c5 a.val && c5 b.val) ∧ c3 (orI a.val b.val) = (c3 a.val && c3 b.val) := by decide +kernel
theorem ro_fin : ∀ (s : Fin 16) (m : Fin 3) (sel : Fin 3), 0 ≤ ro s.val m.val (mxOf m.val sel.val) 9 ∧ ro s.val m.val (mxOf m.val sel.val) 9 ≤ 15 ∧ c5 (ro s.val m.val (mxOf m.val sel.val) 9) = (if m.val = 0 then false else c5 s.val) ∧ c3 (ro s.val m.val (mxOf m.val sel.val) 9) = (if m.val = 0 then false else c3 s.val) := by decide +kernel

theorem fin_of {a : Int} (h0 : 0 ≤ a) (h1 : a ≤ 15) : ∃ x : Fin 16, a = x.val := ⟨⟨a.toNat, by omega⟩, by simp; omega⟩
theorem jn_facts {a b : Int} (ha0 : 0 ≤ a) (ha1 : a ≤ 15) (hb0 : 0 ≤ b) (hb1 : b ≤ 15) : 0 ≤ jn a b ∧ jn a b ≤ 15 ∧ c5 (jn a b) = (c5 a || c5 b) ∧ c3 (jn a b) = (c3 a || c3 b) := by
  obtain ⟨x, rfl⟩ := fin_of ha0 ha1
  obtain ⟨y, rfl⟩ := fin_of hb0 hb1
  exact jn_fin x y
theorem or_facts {a b : Int} (ha0 : 0 ≤ a) (ha1 : a ≤ 15) (hb0 : 0 ≤ b) (hb1 : b ≤ 15) : 0 ≤ orI a b ∧ orI a b ≤ 15 ∧ c5 (orI a b) = (c5 a && c5 b) ∧ c3 (orI a b) = (c3 a && c3 b) := by
  obtain ⟨x, rfl⟩ := fin_of ha0 ha1
  obtain ⟨y, rfl⟩ := fin_of hb0 hb1
  exact or_fin x y
theorem ro_facts {s : Int} (ha0 : 0 ≤ s) (ha1 : s ≤ 15) (m sel : Nat) (hm : m < 3) (hs : sel < 3) : 0 ≤ ro s m (mxOf m sel) 9 ∧ ro s m (mxOf m sel) 9 ≤ 15 ∧ c5 (ro s m (mxOf m sel) 9) = (if m = 0 then false else c5 s) ∧ c3 (ro s m (mxOf m sel) 9) = (if m = 0 then false else c3 s) := by
  obtain ⟨x, rfl⟩ := fin_of ha0 ha1
  exact ro_fin x ⟨m, hm⟩ ⟨sel, hs⟩

/-! ### The tree by its code -/
def iter (f : Nat → Nat) : Nat → Nat → Nat
  | 0, p => p
  | k + 1, p => f (iter f k p)
/-- The byte at pos. -/
def at' (d : List Int) (pos : Nat) : Nat := (d.getD pos 0).toNat
def leafy (d : List Int) (n pos : Nat) : Bool := decide (d.length ≤ pos) || (decide (n = 0) && decide (4 ≤ at' d pos % 9) && decide (at' d pos % 9 ≤ 7))
def kindAt (d : List Int) (n pos : Nat) : Nat := if leafy d n pos then 0 else at' d pos % 9
def cntAt (d : List Int) (n pos : Nat) : Nat :=
  if kindAt d n pos = 4 then 1 else if kindAt d n pos = 5 then at' d pos / 9 % 4 else if kindAt d n pos = 6 then at' d pos / 9 % 4 else if kindAt d n pos = 7 then 1 else 0
def startAt (d : List Int) (pos : Nat) : Nat := if d.length ≤ pos then pos else pos + 1
def minAt (d : List Int) (n pos : Nat) : Nat := if kindAt d n pos = 7 then at' d pos / 9 % 3 else 0
def maxAt (d : List Int) (n pos : Nat) : Int := if kindAt d n pos = 7 then mxOf ((at' d pos / 9 % 3 : Nat) : Int) (at' d pos / 27 % 3) else 0
def endN (d : List Int) : Nat → Nat → Nat
  | 0, pos => startAt d pos
  | n + 1, pos => iter (endN d n) (cntAt d (n + 1) pos) (startAt d pos)
/-- Where sub i begins. -/
def subAt (d : List Int) (n pos i : Nat) : Nat := iter (endN d n) i (startAt d pos)

def cat (f : Nat → Int) : Nat → Int
  | 0 => 1
  | k + 1 => jn (cat f k) (f k)
def alt (f : Nat → Int) : Nat → Int
  | 0 => 0
  | k + 1 => orI (alt f k) (f k)
def trK (kind : Nat) (mn : Nat) (mx : Int) (m : Nat) (f : Nat → Int) : Int :=
  if kind = 2 then 2 else if kind = 3 then 4 else if kind = 4 then f 0 else if kind = 5 then cat f m else if kind = 6 then alt f m else if kind = 7 then ro (f 0) mn mx 9 else 1
def tr (d : List Int) : Nat → Nat → Int
  | 0, pos => trK (kindAt d 0 pos) 0 0 0 (fun _ => 0)
  | n + 1, pos => trK (kindAt d (n + 1) pos) (minAt d (n + 1) pos) (maxAt d (n + 1) pos) (cntAt d (n + 1) pos) (fun i => tr d n (subAt d n pos i))
def orB (f : Nat → Bool) : Nat → Bool
  | 0 => false
  | k + 1 => orB f k || f k
def andB (f : Nat → Bool) : Nat → Bool
  | 0 => true
  | k + 1 => andB f k && f k
/-- What 'alwaysCrossed' answers of one anchor; 'me': the anchor's own kind. -/
def crK (me kind : Nat) (mn : Nat) (m : Nat) (f : Nat → Bool) : Bool :=
  if kind = 2 then decide (me = 2) else if kind = 3 then decide (me = 3) else if kind = 4 then f 0 else if kind = 5 then orB f m else if kind = 6 then andB f m else if kind = 7 then (if mn = 0 then false else f 0) else false
def cr (d : List Int) (me : Nat) : Nat → Nat → Bool
  | 0, pos => crK me (kindAt d 0 pos) 0 0 (fun _ => false)
  | n + 1, pos => crK me (kindAt d (n + 1) pos) (minAt d (n + 1) pos) (cntAt d (n + 1) pos) (fun i => cr d me n (subAt d n pos i))

theorem kind_zero (d : List Int) (pos : Nat) : ¬ (4 ≤ kindAt d 0 pos ∧ kindAt d 0 pos ≤ 7) := by
  unfold kindAt
  cases h : leafy d 0 pos
  · simp [leafy] at h
    simp
    intro h4
    exact h.2 h4
  · simp
theorem kind_le (d : List Int) (n pos : Nat) : kindAt d n pos ≤ 8 := by
  unfold kindAt; split <;> omega

/-- What a set of traces says of the two anchors. -/
def Says (s : Int) (b e : Bool) : Prop := 0 ≤ s ∧ s ≤ 15 ∧ c5 s = b ∧ c3 s = e
theorem base_says : Says 1 false false ∧ Says 2 true false ∧ Says 4 false true := by
  refine ⟨⟨by decide, by decide, ?_, ?_⟩, ⟨by decide, by decide, ?_, ?_⟩, ⟨by decide, by decide, ?_, ?_⟩⟩ <;> decide +kernel
theorem zero_says : Says 0 true true := ⟨by decide, by decide, by decide +kernel, by decide +kernel⟩

theorem cat_says (f : Nat → Int) (gb ge : Nat → Bool) (h : ∀ i, Says (f i) (gb i) (ge i)) (m : Nat) : Says (cat f m) (orB gb m) (orB ge m) := by
  induction m with
  | zero => exact base_says.1
  | succ m ih =>
    obtain ⟨h1, h2, h3, h4⟩ := ih
    obtain ⟨k1, k2, k3, k4⟩ := h m
    obtain ⟨q1, q2, q3, q4⟩ := jn_facts h1 h2 k1 k2
    exact ⟨q1, q2, by rw [cat, q3, h3, k3]; rfl, by rw [cat, q4, h4, k4]; rfl⟩
theorem alt_says (f : Nat → Int) (gb ge : Nat → Bool) (h : ∀ i, Says (f i) (gb i) (ge i)) (m : Nat) : Says (alt f m) (andB gb m) (andB ge m) := by
  induction m with
  | zero => exact zero_says
  | succ m ih =>
    obtain ⟨h1, h2, h3, h4⟩ := ih
    obtain ⟨k1, k2, k3, k4⟩ := h m
    obtain ⟨q1, q2, q3, q4⟩ := or_facts h1 h2 k1 k2
    exact ⟨q1, q2, by rw [alt, q3, h3, k3]; rfl, by rw [alt, q4, h4, k4]; rfl⟩
/-- THE LAW. -/
theorem tr_says (d : List Int) : ∀ n pos, Says (tr d n pos) (cr d 2 n pos) (cr d 3 n pos) := by
  intro n
  induction n with
  | zero =>
    intro pos
    have hk := kind_zero d pos
    unfold tr cr trK crK
    by_cases h2 : kindAt d 0 pos = 2
    · simp [h2]; exact base_says.2.1
    by_cases h3 : kindAt d 0 pos = 3
    · simp [h3]; exact base_says.2.2
    have h4 : kindAt d 0 pos ≠ 4 := by omega
    have h5 : kindAt d 0 pos ≠ 5 := by omega
    have h6 : kindAt d 0 pos ≠ 6 := by omega
    have h7 : kindAt d 0 pos ≠ 7 := by omega
    simp only [h2, h3, h4, h5, h6, h7, if_false]
    exact base_says.1
  | succ n ih =>
    intro pos
    have hf := fun i => ih (subAt d n pos i)
    unfold tr cr
    by_cases h2 : kindAt d (n + 1) pos = 2
    · simp [trK, crK, h2]; exact base_says.2.1
    by_cases h3 : kindAt d (n + 1) pos = 3
    · simp [trK, crK, h3]; exact base_says.2.2
    by_cases h4 : kindAt d (n + 1) pos = 4
    · simp [trK, crK, h4]; exact hf 0
    by_cases h5 : kindAt d (n + 1) pos = 5
    · simp [trK, crK, h5]; exact cat_says _ _ _ hf _
    by_cases h6 : kindAt d (n + 1) pos = 6
    · simp [trK, crK, h6]; exact alt_says _ _ _ hf _
    by_cases h7 : kindAt d (n + 1) pos = 7
    · obtain ⟨k1, k2, k3, k4⟩ := hf 0
      have e1 : minAt d (n + 1) pos = at' d pos / 9 % 3 := by simp [minAt, h7]
      have e2 : maxAt d (n + 1) pos = mxOf ((at' d pos / 9 % 3 : Nat) : Int) (at' d pos / 27 % 3) := by simp [maxAt, h7]
      obtain ⟨q1, q2, q3, q4⟩ := ro_facts k1 k2 (at' d pos / 9 % 3) (at' d pos / 27 % 3) (by omega) (by omega)
      simp only [trK, crK, h7, e1, e2]
      exact ⟨q1, q2, by rw [← k3]; exact q3, by rw [← k4]; exact q4⟩
    · simp [trK, crK, h2, h3, h4, h5, h6, h7]; exact base_says.1
end Go.Proofs.Qxb6600465a.Ere

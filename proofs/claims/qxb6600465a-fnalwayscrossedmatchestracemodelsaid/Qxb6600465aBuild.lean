import Derived.Test.Qxb6600465aTraces
namespace Go.Proofs.Qxb6600465a.Ere
open Go.RowKit

/-- How a node's cells hang on the world: on its own block alone. -/
def OwnBlock (Nd : World → Nat → Nat → Nat → Int → Value → Prop) : Prop := ∀ (w w' : World) g k mn mx v, w'.heap[g]? = w.heap[g]? → Nd w g k mn mx v → Nd w' g k mn mx v
theorem ndT_own : OwnBlock NdT := by
  intro w w' g k mn mx v h ⟨h0, h1, h2, h3⟩
  have c : ∀ i, w'.cell? ⟨g, i, none⟩ = w.cell? ⟨g, i, none⟩ := fun i => World.cell?_of_block (a := ⟨g, i, none⟩) h
  exact ⟨by rw [c]; exact h0, by rw [c]; exact h1, by rw [c]; exact h2, by rw [c]; exact h3⟩

/-- A tree stays where its blocks stay. -/
theorem tree_kept {Nd : World → Nat → Nat → Nat → Int → Value → Prop} (hN : OwnBlock Nd) (d : List Int) {w w' : World} : ∀ n lo hi g pos, (∀ k, lo ≤ k → k < hi → w'.heap[k]? = w.heap[k]?) → Tree Nd d w n lo hi g pos → Tree Nd d w' n lo hi g pos := by
  intro n
  induction n with
  | zero =>
    rintro lo hi g pos hk ⟨h1, h2, v, h3, a, c, rfl, _⟩
    exact ⟨h1, h2, _, hN _ _ _ _ _ _ _ (hk g h1 h2) h3, a, c, rfl, .inl rfl⟩
  | succ n ih =>
    rintro lo hi g pos hk ⟨h1, h2, v, h3, a, c, rfl, h4⟩
    refine ⟨h1, h2, _, hN _ _ _ _ _ _ _ (hk g h1 h2) h3, a, c, rfl, ?_⟩
    rcases h4 with h4 | ⟨h, rfl, q1, q2, q3⟩
    · exact .inl h4
    · refine .inr ⟨h, rfl, q1, q2, fun i hi' => ?_⟩
      obtain ⟨gi, li, ui, r1, r2, r3, r4⟩ := q3 i hi'
      exact ⟨gi, li, ui, by rw [World.cell?_of_block (a := ⟨h, i, none⟩) (hk h q1 q2)]; exact r1, r2, r3, ih li ui gi _ (fun k k1 k2 => hk k (by omega) (by omega)) r4⟩
theorem tree_wide {Nd : World → Nat → Nat → Nat → Int → Value → Prop} (d : List Int) {w : World} : ∀ n lo hi lo' hi' g pos, lo' ≤ lo → hi ≤ hi' → Tree Nd d w n lo hi g pos → Tree Nd d w n lo' hi' g pos := by
  intro n
  cases n with
  | zero =>
    rintro lo hi lo' hi' g pos e1 e2 ⟨h1, h2, v, h3, a, c, rfl, _⟩
    exact ⟨by omega, by omega, _, h3, a, c, rfl, .inl rfl⟩
  | succ n =>
    rintro lo hi lo' hi' g pos e1 e2 ⟨h1, h2, v, h3, a, c, rfl, h4⟩
    refine ⟨by omega, by omega, _, h3, a, c, rfl, ?_⟩
    rcases h4 with h4 | ⟨h, rfl, q1, q2, q3⟩
    · exact .inl h4
    · refine .inr ⟨h, rfl, by omega, by omega, fun i hi' => ?_⟩
      obtain ⟨gi, li, ui, r1, r2, r3, r4⟩ := q3 i hi'
      exact ⟨gi, li, ui, r1, by omega, by omega, r4⟩

/-- The first k subs of a node are built: the slice v, of element type e, owns their pointers in a row from base on; each leads to a tree that lies from 'from'' on, clear of v's own row. -/
structure Part (Nd : World → Nat → Nat → Nat → Int → Value → Prop) (d : List Int) (e n base : Nat) (sub : Nat → Nat) (k : Nat) (ps : List Value) (w : World) (v : Value) : Prop where
  owns : w.ownsRow base e 1 v k ps
  each : ∀ i, i < k → ∃ gi li ui, ps[i]? = some (.pointer (some ⟨gi, 0, none⟩)) ∧ base ≤ li ∧ ui ≤ w.heap.size ∧ (∀ h, v.ownBlock = some h → ¬ (li ≤ h ∧ h < ui)) ∧ Tree Nd d w n li ui gi (sub i)
theorem own_ge {w : World} {base e : Nat} {v : Value} {k : Nat} {ps : List Value} (h : w.ownsRow base e 1 v k ps) : ∀ b, v.ownBlock = some b → base ≤ b ∧ b < w.heap.size := by
  intro b hb
  rcases h.2 with ⟨rfl, _⟩ | ⟨g, cap, cur, rfl, q, hg, _⟩
  · simp [Value.ownBlock] at hb
  · simp [Value.ownBlock] at hb
    subst hb
    refine ⟨q, ?_⟩
    rcases Nat.lt_or_ge g w.heap.size with hlt | hge
    · exact hlt
    · rw [Array.getElem?_eq_none hge] at hg; cases hg
theorem owns_kept {w w' : World} {base e : Nat} {v : Value} {k : Nat} {ps : List Value} (h : w.ownsRow base e 1 v k ps) (hk : ∀ b, v.ownBlock = some b → w'.heap[b]? = w.heap[b]?) : w'.ownsRow base e 1 v k ps := by
  refine ⟨h.1, ?_⟩
  rcases h.2 with hn | ⟨g, cap, cur, rfl, hb, hgg, rest⟩
  · exact .inl hn
  · exact .inr ⟨g, cap, cur, rfl, hb, by rw [hk g rfl]; exact hgg, rest⟩
theorem part_nil {Nd : World → Nat → Nat → Nat → Int → Value → Prop} (d : List Int) (e n base : Nat) (sub : Nat → Nat) (w : World) : Part Nd d e n base sub 0 [] w (.slice none 0 0) :=
  ⟨World.ownsRow_nil _ _ _ _, fun i hi => by omega⟩
/-- Old blocks stay: the part stays. -/
theorem part_below {Nd : World → Nat → Nat → Nat → Int → Value → Prop} (hN : OwnBlock Nd) {d : List Int} {e n base : Nat} {sub : Nat → Nat} {k : Nat} {ps : List Value} {w w' : World} {v : Value} (h : Part Nd d e n base sub k ps w v) (hb : Below w.heap.size w w') : Part Nd d e n base sub k ps w' v := by
  refine ⟨owns_kept h.owns fun b q => hb.block b (own_ge h.owns b q).2, fun i hi => ?_⟩
  obtain ⟨gi, li, ui, q1, q2, q3, q4, q5⟩ := h.each i hi
  exact ⟨gi, li, ui, q1, q2, Nat.le_trans q3 hb.size, q4, tree_kept hN d n li ui gi _ (fun k _ k2 => hb.block k (by omega)) q5⟩
/-- A store below base: the part stays. -/
theorem part_set {Nd : World → Nat → Nat → Nat → Int → Value → Prop} (hN : OwnBlock Nd) {d : List Int} {e n base : Nat} {sub : Nat → Nat} {k : Nat} {ps : List Value} {w : World} {v : Value} (h : Part Nd d e n base sub k ps w v) (a : Addr) (ha : a.block < base) (x : Value) : Part Nd d e n base sub k ps (w.setCell a x) v := by
  have hb : ∀ b, base ≤ b → (w.setCell a x).heap[b]? = w.heap[b]? := fun b hb => Below.heap_setCell w a x b (by omega)
  refine ⟨owns_kept h.owns fun b q => hb b (own_ge h.owns b q).1, fun i hi => ?_⟩
  obtain ⟨gi, li, ui, q1, q2, q3, q4, q5⟩ := h.each i hi
  exact ⟨gi, li, ui, q1, q2, by simpa [World.setCell] using q3, q4, tree_kept hN d n li ui gi _ (fun k k1 _ => hb k (by omega)) q5⟩
/-- One sub more: built above all that was there (from 'w' to 'w1'), its pointer appended. -/
theorem part_step {Nd : World → Nat → Nat → Nat → Int → Value → Prop} (hN : OwnBlock Nd) {d : List Int} {e n base : Nat} {sub : Nat → Nat} {k : Nat} {ps : List Value} {w w1 w2 : World} {v : Value} {gi g cap : Nat} {o : Obj}
    (h : Part Nd d e n base sub k ps w v) (hbw : base ≤ w.heap.size) (hb : Below w.heap.size w w1) (ht : Tree Nd d w1 n w.heap.size w1.heap.size gi (sub k))
    (hown : w2.ownsRow base e 1 (.slice (some ⟨g, 0, none⟩) (k + 1) cap) (k + 1) (ps ++ [.pointer (some ⟨gi, 0, none⟩)])) (hgrow : (w1.alloc o).grownBy w2 v.ownBlock) (hat : v.ownBlock = some g ∨ g = w1.heap.size + 1) :
    Part Nd d e n base sub (k + 1) (ps ++ [.pointer (some ⟨gi, 0, none⟩)]) w2 (.slice (some ⟨g, 0, none⟩) (k + 1) cap) := by
  have hlen : ps.length = k := by have := h.owns.1; omega
  have hz : w1.heap.size + 1 ≤ w2.heap.size := by have := hgrow.size; simpa using this
  have keep : ∀ b, b < w1.heap.size → (∀ q, v.ownBlock = some q → b ≠ q) → w2.heap[b]? = w1.heap[b]? := fun b hlt hne => by
    rw [hgrow.block b (by simp; omega) (fun e => hne b e.symm rfl)]
    exact Below.heap_alloc w1 o b hlt
  have clear' : ∀ li ui, ui ≤ w1.heap.size → (∀ q, v.ownBlock = some q → ¬ (li ≤ q ∧ q < ui)) → ∀ q, (Value.slice (some ⟨g, 0, none⟩) (k + 1) cap).ownBlock = some q → ¬ (li ≤ q ∧ q < ui) := by
    intro li ui hu hc q hq
    simp [Value.ownBlock] at hq
    subst hq
    rcases hat with hat | hat
    · exact hc g hat
    · omega
  refine ⟨hown, fun i hi => ?_⟩
  by_cases e1 : i = k
  · subst e1
    have own : ∀ q, v.ownBlock = some q → ¬ (w.heap.size ≤ q ∧ q < w1.heap.size) := fun q hq => by have := (own_ge h.owns q hq).2; omega
    refine ⟨gi, w.heap.size, w1.heap.size, by simp [hlen], hbw, by omega, clear' _ _ (Nat.le_refl _) own, tree_kept hN d n _ _ gi _ (fun b b1 b2 => keep b b2 fun q hq hbq => by subst hbq; exact own b hq ⟨b1, b2⟩) ht⟩
  · obtain ⟨gj, li, ui, q1, q2, q3, q4, q5⟩ := (part_below hN h hb).each i (by omega)
    refine ⟨gj, li, ui, by rw [List.getElem?_append_left (by omega)]; exact q1, q2, by omega, clear' li ui q3 q4, tree_kept hN d n li ui gj _ (fun b b1 b2 => keep b (by omega) fun q hq hbq => by subst hbq; exact q4 b hq ⟨b1, b2⟩) q5⟩
/-- All subs are built: the slice is laid as the tree wants it. -/
theorem part_lay {Nd : World → Nat → Nat → Nat → Int → Value → Prop} {d : List Int} {e n base : Nat} {sub : Nat → Nat} {m : Nat} {ps : List Value} {w : World} {v : Value} (h : Part Nd d e n base sub m ps w v) (lo : Nat) (hlo : lo ≤ base) : Lay w m sub (Tree Nd d w n) lo w.heap.size v := by
  have ho := h.owns
  obtain ⟨q1, q2⟩ := h.owns
  rcases q2 with ⟨rfl, rfl⟩ | ⟨g, cap, cur, rfl, hb, hg, _⟩
  · exact ⟨none, 0, rfl, .inl rfl⟩
  · have hlt := own_ge ho g rfl
    refine ⟨_, cap, rfl, .inr ⟨g, rfl, by omega, hlt.2, fun i hi => ?_⟩⟩
    obtain ⟨gi, li, ui, r1, r2, r3, _, r5⟩ := h.each i hi
    exact ⟨gi, li, ui, by rw [World.ownsRow.cellAt ho i (by omega)]; exact r1, by omega, r3, r5⟩
end Go.Proofs.Qxb6600465a.Ere

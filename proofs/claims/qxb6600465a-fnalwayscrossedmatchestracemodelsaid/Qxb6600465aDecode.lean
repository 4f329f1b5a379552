import Derived.Test.Qxb6600465aBuild
namespace Go.Proofs.Qxb6600465a.Ere
open Go.RowKit

theorem info24 : (Try.prog.info? 24).map (fun i => (i.zero, i.size, i.bytes)) = some (some (.pointer none), 1, 8) := by kernel_rfl

/-- The code's slice: the bytes d lie at its address. -/
def Code' (w : World) (a : Option Addr) (d : List Int) : Prop := d = [] ∨ ∃ ax, a = some ax ∧ ax.block < w.heap.size ∧ ∀ i, i < d.length → w.cell? (ax.add i) = some (.int .u8 (d.getD i 0))
theorem code_byte {w : World} {a : Option Addr} {d : List Int} (h : Code' w a d) {k : Nat} (hk : k < d.length) : ∃ ax, a = some ax ∧ ax.block < w.heap.size ∧ w.cell? (ax.add k) = some (.int .u8 (d.getD k 0)) := by
  rcases h with rfl | ⟨ax, rfl, hlt, hb⟩
  · simp at hk
  · exact ⟨ax, rfl, hlt, hb k hk⟩
theorem code_below {w w' : World} {a : Option Addr} {d : List Int} (h : Code' w a d) {B : Nat} (hB : w.heap.size ≤ B) (hb : Below B w w') : Code' w' a d := by
  rcases h with rfl | ⟨ax, rfl, hlt, hy⟩
  · exact .inl rfl
  · exact .inr ⟨ax, rfl, Nat.lt_of_lt_of_le hlt hb.size, fun i hi => by rw [← hy i hi]; exact hb.cell (p := ax.add i) (by rw [show (ax.add i).block = ax.block from by unfold Addr.add; split <;> rfl]; exact Nat.lt_of_lt_of_le hlt hB)⟩

theorem start_le {d : List Int} {pos : Nat} (h : pos ≤ d.length) : startAt d pos ≤ d.length := by unfold startAt; split <;> omega
theorem iter_le {f : Nat → Nat} {L : Nat} (hf : ∀ p, p ≤ L → f p ≤ L) (k p : Nat) (h : p ≤ L) : iter f k p ≤ L := by
  induction k with
  | zero => exact h
  | succ k ih => exact hf _ ih
theorem end_le (d : List Int) : ∀ n pos, pos ≤ d.length → endN d n pos ≤ d.length := by
  intro n
  induction n with
  | zero => intro pos h; exact start_le h
  | succ n ih => intro pos h; exact iter_le ih _ _ (start_le h)
theorem sub_le (d : List Int) (n pos i : Nat) (h : pos ≤ d.length) : subAt d n pos i ≤ d.length := iter_le (end_le d n) _ _ (start_le h)
theorem end_leaf {d : List Int} {n pos : Nat} (h : cntAt d n pos = 0) : endN d n pos = startAt d pos := by
  cases n with
  | zero => rfl
  | succ n => rw [endN, h]; rfl
theorem tree_leaf {Nd : World → Nat → Nat → Nat → Int → Value → Prop} {d : List Int} {w : World} {n lo hi g pos : Nat} {v : Value} {c : Nat} {a : Option Addr} (h : cntAt d n pos = 0) (h1 : lo ≤ g) (h2 : g < hi) (hv : v = .slice a 0 c) (hn : Nd w g (kindAt d n pos) (minAt d n pos) (maxAt d n pos) v) : Tree Nd d w n lo hi g pos := by
  subst hv
  cases n with
  | zero => exact ⟨h1, h2, _, hn, a, c, rfl, .inl rfl⟩
  | succ n => exact ⟨h1, h2, _, hn, a, c, by rw [h], .inl h⟩
/-- A node that has no sub by its kind. -/
theorem plain_kind {d : List Int} {n pos : Nat} (h : ¬ (4 ≤ kindAt d n pos ∧ kindAt d n pos ≤ 7)) : cntAt d n pos = 0 ∧ minAt d n pos = 0 ∧ maxAt d n pos = 0 := by
  refine ⟨?_, ?_, ?_⟩
  · unfold cntAt
    rw [if_neg (by omega), if_neg (by omega), if_neg (by omega), if_neg (by omega)]
  · unfold minAt; rw [if_neg (by omega)]
  · unfold maxAt; rw [if_neg (by omega)]
theorem leaf_kind {d : List Int} {n pos : Nat} (h : leafy d n pos = true) : kindAt d n pos = 0 := by unfold kindAt; rw [h]; rfl
theorem read_kind {d : List Int} {n pos : Nat} (h : leafy d n pos = false) : kindAt d n pos = at' d pos % 9 := by unfold kindAt; rw [h]; rfl
theorem ndT_new (w : World) (k mn : Nat) (mx : Int) (v : Value) (K Mn Mx : Int) (h1 : K = k) (h2 : Mn = mn) (h3 : Mx = mx) : NdT (w.alloc (.cells #[.int .i64 K, .int .i64 Mn, .int .i64 Mx, v] 35)) w.heap.size k mn mx v := by
  subst h1; subst h2; subst h3
  exact ⟨by simp [go_sem], by simp [go_sem], by simp [go_sem], by simp [go_sem]⟩
/-- What 'decodeNode' leaves. -/
def Decoded (d : List Int) (n pos : Nat) (w w' : World) (e : Ending) : Prop :=
  ∃ g, e = .returned (.tuple #[.pointer (some ⟨g, 0, none⟩), .int .i64 (endN d n pos)]) ∧ Tree NdT d w' n w.heap.size w'.heap.size g pos ∧ Below w.heap.size w w'
theorem decoded_leaf {d : List Int} {n pos : Nat} {w : World} {e : Ending} {K P : Int} (hk : ¬ (4 ≤ kindAt d n pos ∧ kindAt d n pos ≤ 7)) (hK : K = kindAt d n pos) (hP : P = startAt d pos) (he : e = .returned (.tuple #[.pointer (some ⟨w.heap.size, 0, none⟩), .int .i64 P])) :
    Decoded d n pos w (w.alloc (.cells #[.int .i64 K, .int .i64 0, .int .i64 0, .slice none 0 0] 35)) e := by
  obtain ⟨q1, q2, q3⟩ := plain_kind hk
  refine ⟨w.heap.size, by rw [he, hP, end_leaf q1], tree_leaf (v := .slice none 0 0) (a := none) (c := 0) q1 (Nat.le_refl _) (by simp) rfl ?_, (Below.refl _ _).alloc (Nat.le_refl _) _⟩
  exact ndT_new w _ _ _ _ _ _ _ hK (by rw [q2]; rfl) q3.symm

set_option maxHeartbeats 2000000 in
/-- Behind the code's end, at the greatest depth, and at the kinds without subs: a node alone. -/
theorem decode_leaf (d : List Int) (hd : d.length ≤ 70000) (hby : ∀ i, 0 ≤ d.getD i 0 ∧ d.getD i 0 ≤ 255) (n pos dp : Nat) (hdp : dp + n = 48) (a : Option Addr) (cap : Nat) (w : World) (hc : Code' w a d) (hp : pos ≤ d.length) (hk : ¬ (4 ≤ kindAt d n pos ∧ kindAt d n pos ≤ 7)) :
    Calls Try.prog 6 #[.slice a d.length cap, .int .i64 pos, .int .i64 dp] w fun e w' => Decoded d n pos w w' e := by
  by_cases hpl : pos < d.length
  · obtain ⟨ax, rfl, hblt, hcell⟩ := code_byte hc hpl
    have hby1 := hby pos
    obtain ⟨B, hB⟩ : ∃ B : Nat, d.getD pos 0 = (B : Int) := Int.eq_ofNat_of_zero_le hby1.1
    have hB2 : at' d pos = B := by unfold at'; rw [hB]; simp
    rw [hB] at hcell hby1
    have hB1 : (B : Int) ≤ 255 := hby1.2
    have HS : Hid (startAt d pos = pos + 1) := by show startAt d pos = pos + 1; unfold startAt; rw [if_neg (by omega)]
    cases hlf : leafy d n pos
    · have hkk := read_kind hlf
      rw [hB2] at hkk
      have HK : Hid (kindAt d n pos = B % 9) := hkk
      have HQ : Hid (¬ (4 ≤ kindAt d n pos ∧ kindAt d n pos ≤ 7)) := hk
      have hk9 : B % 9 = 0 ∨ B % 9 = 1 ∨ B % 9 = 2 ∨ B % 9 = 3 ∨ B % 9 = 8 := by omega
      clear hk hkk hB hB2 hby hby1 hlf hc
      rcases hk9 with h9 | h9 | h9 | h9 | h9
      all_goals
        have hI : (B : Int) % 9 = _ := congrArg Int.ofNat h9
        clear h9
        simp only [Int.ofNat_eq_natCast] at hI
        by_cases h48 : 48 ≤ dp
        · go_enter Try.func6, Try.ntmps6
          go_wp2_with fail
          refine wp_loop_rounds 1 ?_
          rw [rounds_succ]
          go_wp2_with fail
          go_ret2
          exact decoded_leaf HQ.out (by rw [HK.out]; omega) (by rw [HS.out]; rfl) rfl
        · go_enter Try.func6, Try.ntmps6
          go_wp2_with fail
          refine wp_loop_rounds 1 ?_
          rw [rounds_succ]
          go_wp2_with fail
          go_ret2
          exact decoded_leaf HQ.out (by rw [HK.out]; omega) (by rw [HS.out]; rfl) rfl
    · have HK : Hid (kindAt d n pos = 0) := leaf_kind hlf
      have HQ : Hid (¬ (4 ≤ kindAt d n pos ∧ kindAt d n pos ≤ 7)) := hk
      simp only [leafy, hB2, Bool.or_eq_true, Bool.and_eq_true, decide_eq_true_eq] at hlf
      have h48 : 48 ≤ dp := by omega
      have q1 : (4 : Int) ≤ (B : Int) % 9 := by omega
      have q2 : (B : Int) % 9 ≤ 7 := by omega
      clear hk hB hB2 hby hby1 hlf hc
      go_enter Try.func6, Try.ntmps6
      go_wp2_with fail
      go_ret2
      exact decoded_leaf HQ.out (by rw [HK.out]; rfl) (by rw [HS.out]; rfl) rfl
  · have hlf : leafy d n pos = true := by simp [leafy]; omega
    have HK : Hid (kindAt d n pos = 0) := leaf_kind hlf
    have HQ : Hid (¬ (4 ≤ kindAt d n pos ∧ kindAt d n pos ≤ 7)) := hk
    have HS : Hid (startAt d pos = pos) := by show startAt d pos = pos; unfold startAt; rw [if_pos (by omega)]
    clear hk hby hlf hc
    go_enter Try.func6, Try.ntmps6
    go_wp2_with fail
    go_ret2
    exact decoded_leaf HQ.out (by rw [HK.out]; rfl) (by rw [HS.out]) rfl

/-- What the loop over the subs holds. -/
def Round (d : List Int) (n pos K mn : Nat) (mx : Int) (w : World) (k : Nat) (wr : World) : Prop :=
  ∃ ps v, Part NdT d 24 n (w.heap.size + 1) (subAt d n pos) k ps wr v ∧ NdT wr w.heap.size K mn mx v ∧ wr.frozen? ⟨w.heap.size, 3, none⟩ = false ∧ Below w.heap.size w wr ∧ w.heap.size + 1 ≤ wr.heap.size
theorem round_start (d : List Int) (n pos K mn : Nat) (mx : Int) (w : World) (A B C : Int) (h1 : A = K) (h2 : B = mn) (h3 : C = mx) : Round d n pos K mn mx w 0 (w.alloc (.cells #[.int .i64 A, .int .i64 B, .int .i64 C, .slice none 0 0] 35)) :=
  ⟨[], _, part_nil d 24 n _ _ _, ndT_new w K mn mx _ A B C h1 h2 h3, by simp [go_sem], (Below.refl _ _).alloc (Nat.le_refl _) _, by simp⟩
theorem round_step {d : List Int} {n pos K mn : Nat} {mx : Int} {w : World} {k : Nat} {wr w1 w2 : World} {ps : List Value} {v : Value} {gi g cap : Nat} {o : Obj}
    (hp : Part NdT d 24 n (w.heap.size + 1) (subAt d n pos) k ps wr v) (hn : NdT wr w.heap.size K mn mx v) (hf : wr.frozen? ⟨w.heap.size, 3, none⟩ = false) (hb : Below w.heap.size w wr) (hz : w.heap.size + 1 ≤ wr.heap.size)
    (hb1 : Below wr.heap.size wr w1) (ht : Tree NdT d w1 n wr.heap.size w1.heap.size gi (subAt d n pos k))
    (hown : w2.ownsRow (w.heap.size + 1) 24 1 (.slice (some ⟨g, 0, none⟩) (k + 1) cap) (k + 1) (ps ++ [.pointer (some ⟨gi, 0, none⟩)])) (hgrow : (w1.alloc o).grownBy w2 v.ownBlock) (hat : v.ownBlock = some g ∨ g = w1.heap.size + 1) :
    Round d n pos K mn mx w (k + 1) (w2.setCell ⟨w.heap.size, 3, none⟩ (.slice (some ⟨g, 0, none⟩) (k + 1) cap)) ∧ w2.cell? ⟨w.heap.size, 3, none⟩ = some v ∧ w2.frozen? ⟨w.heap.size, 3, none⟩ = false := by
  have hP := part_step ndT_own hp hz hb1 ht hown hgrow hat
  have hsame : w2.heap[w.heap.size]? = wr.heap[w.heap.size]? := by
    rw [hgrow.block w.heap.size (by have := hb1.size; simp; omega) (fun e => by have := (own_ge hp.owns _ e.symm).1; omega)]
    rw [Below.heap_alloc w1 o _ (by have := hb1.size; omega)]
    exact hb1.block _ (by omega)
  have hN := ndT_own _ _ _ _ _ _ _ hsame hn
  have hf2 : w2.frozen? ⟨w.heap.size, 3, none⟩ = false := by rw [World.frozen?_of_block (a := ⟨w.heap.size, 3, none⟩) hsame]; exact hf
  have hb2 : Below w.heap.size w w2 := by
    have q1 : Below w.heap.size w (w1.alloc o) := (hb.trans (hb1.mono hb.size)).alloc (Nat.le_trans hb.size hb1.size) o
    exact Below.grown q1 hgrow q1.size (fun q hq => by have := (own_ge hp.owns q hq).1; omega)
  obtain ⟨c0, c1, c2, c3⟩ := hN
  have other : ∀ i, i ≠ 3 → (w2.setCell ⟨w.heap.size, 3, none⟩ (.slice (some ⟨g, 0, none⟩) (k + 1) cap)).cell? ⟨w.heap.size, i, none⟩ = w2.cell? ⟨w.heap.size, i, none⟩ := fun i hi => World.cell?_setCell_other _ _ _ _ (fun e => hi (congrArg Addr.off e).symm)
  refine ⟨⟨_, _, part_set ndT_own hP ⟨w.heap.size, 3, none⟩ (Nat.lt_succ_self _) _, ⟨?_, ?_, ?_, World.cell?_setCell_same _ _ _ c3⟩, ?_, Below.setCell (p := ⟨w.heap.size, 3, none⟩) hb2 (Nat.le_refl _) _, ?_⟩, c3, hf2⟩
  · rw [other 0 (by decide)]; exact c0
  · rw [other 1 (by decide)]; exact c1
  · rw [other 2 (by decide)]; exact c2
  · rw [World.frozen?_setCell]; exact hf2
  · have := hgrow.size
    have := hb1.size
    simp [World.setCell] at *
    omega
theorem round_end {d : List Int} {n pos : Nat} {w wr : World} {e : Ending} {P : Int} (h : Round d n pos (kindAt d (n + 1) pos) (minAt d (n + 1) pos) (maxAt d (n + 1) pos) w (cntAt d (n + 1) pos) wr) (hP : P = subAt d n pos (cntAt d (n + 1) pos)) (he : e = .returned (.tuple #[.pointer (some ⟨w.heap.size, 0, none⟩), .int .i64 P])) : Decoded d (n + 1) pos w wr e := by
  obtain ⟨ps, v, hp, hn, _, hb, hz⟩ := h
  exact ⟨w.heap.size, by rw [he, hP]; rfl, ⟨Nat.le_refl _, by omega, v, hn, part_lay hp _ (by omega)⟩, hb⟩
theorem sub_succ (d : List Int) (n pos k : Nat) : subAt d n pos (k + 1) = endN d n (subAt d n pos k) := rfl

set_option maxHeartbeats 4000000 in
theorem decode_4 (d : List Int) (hd : d.length ≤ 70000) (hby : ∀ i, 0 ≤ d.getD i 0 ∧ d.getD i 0 ≤ 255) (n pos dp : Nat) (hdp : dp + (n + 1) = 48) (a : Option Addr) (cap : Nat) (w : World) (hc : Code' w a d) (hp0 : pos ≤ d.length) (hk : kindAt d (n + 1) pos = 4)
    (ih : ∀ (pos dp : Nat) (a : Option Addr) (cap : Nat) (w : World), dp + n = 48 → Code' w a d → pos ≤ d.length → Calls Try.prog 6 #[.slice a d.length cap, .int .i64 pos, .int .i64 dp] w fun e w' => Decoded d n pos w w' e) :
    Calls Try.prog 6 #[.slice a d.length cap, .int .i64 pos, .int .i64 dp] w fun e w' => Decoded d (n + 1) pos w w' e := by
  have IH : Hid (∀ (pos dp : Nat) (a : Option Addr) (cap : Nat) (w : World), dp + n = 48 → Code' w a d → pos ≤ d.length → Calls Try.prog 6 #[.slice a d.length cap, .int .i64 pos, .int .i64 dp] w fun e w' => Decoded d n pos w w' e) := ih
  have hlf : leafy d (n + 1) pos = false := by
    cases h : leafy d (n + 1) pos with
    | false => rfl
    | true => rw [leaf_kind h] at hk; omega
  have hpl : pos < d.length := by simp [leafy] at hlf; omega
  obtain ⟨ax, rfl, hblt, hcell⟩ := code_byte hc hpl
  have HCo : Hid (Code' w (some ax) d) := hc
  have hby1 := hby pos
  obtain ⟨B, hB⟩ : ∃ B : Nat, d.getD pos 0 = (B : Int) := Int.eq_ofNat_of_zero_le hby1.1
  have hB2 : at' d pos = B := by unfold at'; rw [hB]; simp
  rw [hB] at hcell hby1
  have hB1 : (B : Int) ≤ 255 := hby1.2
  have HS : Hid (startAt d pos = pos + 1) := by show startAt d pos = pos + 1; unfold startAt; rw [if_neg (by omega)]
  have hkk := read_kind hlf
  rw [hB2, hk] at hkk
  have hI : (B : Int) % 9 = 4 := by omega
  have EK : Hid (kindAt d (n + 1) pos = 4) := hk
  have EM : Hid (cntAt d (n + 1) pos = 1) := by show _ = _; simp [cntAt, hk]
  have EMN : Hid (minAt d (n + 1) pos = 0) := by show _ = _; simp [minAt, hk]
  have EMX : Hid (maxAt d (n + 1) pos = 0) := by show _ = _; simp [maxAt, hk]
  obtain ⟨i0, hi, hz0, hz1, hz2⟩ := info_parts info24
  have HI : Hid (Try.prog.info? 24 = some i0 ∧ i0.zero = some (.pointer none) ∧ i0.size = 1 ∧ i0.bytes = 8) := ⟨hi, hz0, hz1, hz2⟩
  clear hi hz0 hz1 hz2 hk hkk hB hB2 hby hby1 hlf hc ih
  have hdp2 : dp < 48 := by omega
  go_enter Try.func6, Try.ntmps6
  go_wp2_with fail
  go_loopw [1, 13, 14] (fun vp vi _ wr => ∃ k : Nat, k ≤ 1 ∧ vi = .int .i64 k ∧ vp = .int .i64 (subAt d n pos k) ∧ Round d n pos 4 0 0 w k wr) (fun _ v _ _ => 1 - (intOf v).toNat)
  case atStart => exact ⟨0, Nat.zero_le _, rfl, by rw [show subAt d n pos 0 = startAt d pos from rfl, HS.out]; rfl, round_start d n pos 4 0 0 w _ _ _ rfl rfl rfl⟩
  case round =>
    obtain ⟨k, hk, rfl, rfl, ps, v, hp, hn, hfz, hb, hz⟩ := hrel
    have hsl := sub_le d n pos k hp0
    have HP : Hid (Part NdT d 24 n (w.heap.size + 1) (subAt d n pos) k ps wr v) := hp
    have HNd : Hid (NdT wr w.heap.size 4 0 0 v) := hn
    obtain ⟨_, _, _, hc3⟩ := hn
    have HB : Hid (Below w.heap.size w wr) := hb
    obtain ⟨S, hS⟩ : ∃ S, subAt d n pos k = S := ⟨_, rfl⟩
    have HSu : Hid (subAt d n pos k = S) := hS
    rw [hS] at hsl
    rw [hS]
    by_cases hlt : k < 1
    · have HC : Hid (Calls Try.prog 6 #[.slice (some ax) d.length cap, .int .i64 S, .int .i64 ((dp + 1 : Nat) : Int)] wr fun e w' => Decoded d n S wr w' e) := IH.out S (dp + 1) (some ax) cap wr (by omega) (code_below HCo.out (Nat.le_refl _) hb) hsl
      have hps : ps.length = k := by have := hp.owns.1; omega
      have HPS : Hid (ps.length = k) := hps
      clear hp hb hS hps
      go_wp2_with fail
      rw [show ((dp : Int) + 1) = ((dp + 1 : Nat) : Int) from by omega]
      refine HC.out.mono ?_
      rintro e w1 ⟨gi, rfl, ht, hb1⟩
      have HT : Hid (Tree NdT d w1 n wr.heap.size w1.heap.size gi S) := ht
      have HB1 : Hid (Below wr.heap.size wr w1) := hb1
      have HP1 : Hid (Part NdT d 24 n (w.heap.size + 1) (subAt d n pos) k ps w1 v) := part_below ndT_own HP.out hb1
      have hcv : w1.cell? ⟨w.heap.size, 3, none⟩ = some v := by rw [← hc3]; exact hb1.cell (p := ⟨w.heap.size, 3, none⟩) (by show w.heap.size < _; omega)
      have hsz := hb1.size
      clear ht hb1
      obtain ⟨W1, rfl⟩ : ∃ W, W = w1 := ⟨_, rfl⟩
      go_wp2_with (at_builtin; refine wpList_append_lies _ rfl _ _ 33 rfl (w.heap.size + 1) 24 i0 (.pointer none) 1 8 Try.underlying33 HI.out.1 HI.out.2.1 HI.out.2.2.1 HI.out.2.2.2 rfl (by decide) v k ps rfl (HP1.out.owns.alloc _) ⟨W1.heap.size, 0, none⟩ 1 1 [.pointer (some ⟨gi, 0, none⟩)] rfl rfl (cell_one_new _ _ _) (by simp [Value.oneCell']) (by omega) (by unfold maxLen; omega) (by omega) (by simp; omega) (W1.heap.size + 1) (by simp) ?_; intro g cap' w2 hown2 hgrow2 hat hglt; have hst := round_step HP.out HNd.out hfz HB.out hz HB1.out (by rw [HSu.out]; exact HT.out) hown2 hgrow2 hat; have hc2 := hst.2.1; have hf2 := hst.2.2; have HR : Hid (Round d n pos 4 0 0 w (k + 1) (w2.setCell ⟨w.heap.size, 3, none⟩ (.slice (some ⟨g, 0, none⟩) (k + 1) cap'))) := hst.1; clear hst hown2 hgrow2 hat)
      go_roundw
      case rel => exact ⟨k + 1, by omega, by go_num, by rw [sub_succ, HSu.out], HR.out⟩
      case measure => simp [intOf]; omega
    · obtain rfl : k = 1 := by omega
      have HR : Hid (Round d n pos 4 0 0 w 1 wr) := ⟨ps, v, HP.out, HNd.out, hfz, hb, hz⟩
      clear hp hb hS
      go_wp2_with fail
      go_ret2
      refine round_end ?_ ?_ rfl
      · rw [EK.out, EMN.out, EMX.out, EM.out]; exact HR.out
      · rw [EM.out, HSu.out]

set_option maxHeartbeats 4000000 in
theorem decode_5 (d : List Int) (hd : d.length ≤ 70000) (hby : ∀ i, 0 ≤ d.getD i 0 ∧ d.getD i 0 ≤ 255) (n pos dp : Nat) (hdp : dp + (n + 1) = 48) (a : Option Addr) (cap : Nat) (w : World) (hc : Code' w a d) (hp0 : pos ≤ d.length) (hk : kindAt d (n + 1) pos = 5)
    (ih : ∀ (pos dp : Nat) (a : Option Addr) (cap : Nat) (w : World), dp + n = 48 → Code' w a d → pos ≤ d.length → Calls Try.prog 6 #[.slice a d.length cap, .int .i64 pos, .int .i64 dp] w fun e w' => Decoded d n pos w w' e) :
    Calls Try.prog 6 #[.slice a d.length cap, .int .i64 pos, .int .i64 dp] w fun e w' => Decoded d (n + 1) pos w w' e := by
  have IH : Hid (∀ (pos dp : Nat) (a : Option Addr) (cap : Nat) (w : World), dp + n = 48 → Code' w a d → pos ≤ d.length → Calls Try.prog 6 #[.slice a d.length cap, .int .i64 pos, .int .i64 dp] w fun e w' => Decoded d n pos w w' e) := ih
  have hlf : leafy d (n + 1) pos = false := by
    cases h : leafy d (n + 1) pos with
    | false => rfl
    | true => rw [leaf_kind h] at hk; omega
  have hpl : pos < d.length := by simp [leafy] at hlf; omega
  obtain ⟨ax, rfl, hblt, hcell⟩ := code_byte hc hpl
  have HCo : Hid (Code' w (some ax) d) := hc
  have hby1 := hby pos
  obtain ⟨B, hB⟩ : ∃ B : Nat, d.getD pos 0 = (B : Int) := Int.eq_ofNat_of_zero_le hby1.1
  have hB2 : at' d pos = B := by unfold at'; rw [hB]; simp
  rw [hB] at hcell hby1
  have hB1 : (B : Int) ≤ 255 := hby1.2
  have HS : Hid (startAt d pos = pos + 1) := by show startAt d pos = pos + 1; unfold startAt; rw [if_neg (by omega)]
  have hkk := read_kind hlf
  rw [hB2, hk] at hkk
  have hI : (B : Int) % 9 = 5 := by omega
  have EK : Hid (kindAt d (n + 1) pos = 5) := hk
  obtain ⟨m, hm⟩ : ∃ m, B / 9 % 4 = m := ⟨_, rfl⟩
  have EM : Hid (cntAt d (n + 1) pos = m) := by show _ = _; simp [cntAt, hk, hB2, hm]
  have EMN : Hid (minAt d (n + 1) pos = 0) := by show _ = _; simp [minAt, hk]
  have EMX : Hid (maxAt d (n + 1) pos = 0) := by show _ = _; simp [maxAt, hk]
  have hmI : (B : Int) / 9 % 4 = (m : Int) := by omega
  have hm3 : m ≤ 3 := by omega
  clear hm
  obtain ⟨i0, hi, hz0, hz1, hz2⟩ := info_parts info24
  have HI : Hid (Try.prog.info? 24 = some i0 ∧ i0.zero = some (.pointer none) ∧ i0.size = 1 ∧ i0.bytes = 8) := ⟨hi, hz0, hz1, hz2⟩
  clear hi hz0 hz1 hz2 hk hkk hB hB2 hby hby1 hlf hc ih
  have hdp2 : dp < 48 := by omega
  go_enter Try.func6, Try.ntmps6
  go_wp2_with fail
  go_loopw [1, 13, 14] (fun vp vi _ wr => ∃ k : Nat, k ≤ m ∧ vi = .int .i64 k ∧ vp = .int .i64 (subAt d n pos k) ∧ Round d n pos 5 0 0 w k wr) (fun _ v _ _ => m - (intOf v).toNat)
  case atStart => exact ⟨0, Nat.zero_le _, rfl, by rw [show subAt d n pos 0 = startAt d pos from rfl, HS.out]; rfl, round_start d n pos 5 0 0 w _ _ _ rfl rfl rfl⟩
  case round =>
    obtain ⟨k, hk, rfl, rfl, ps, v, hp, hn, hfz, hb, hz⟩ := hrel
    have hsl := sub_le d n pos k hp0
    have HP : Hid (Part NdT d 24 n (w.heap.size + 1) (subAt d n pos) k ps wr v) := hp
    have HNd : Hid (NdT wr w.heap.size 5 0 0 v) := hn
    obtain ⟨_, _, _, hc3⟩ := hn
    have HB : Hid (Below w.heap.size w wr) := hb
    obtain ⟨S, hS⟩ : ∃ S, subAt d n pos k = S := ⟨_, rfl⟩
    have HSu : Hid (subAt d n pos k = S) := hS
    rw [hS] at hsl
    rw [hS]
    by_cases hlt : k < m
    · have HC : Hid (Calls Try.prog 6 #[.slice (some ax) d.length cap, .int .i64 S, .int .i64 ((dp + 1 : Nat) : Int)] wr fun e w' => Decoded d n S wr w' e) := IH.out S (dp + 1) (some ax) cap wr (by omega) (code_below HCo.out (Nat.le_refl _) hb) hsl
      have hps : ps.length = k := by have := hp.owns.1; omega
      have HPS : Hid (ps.length = k) := hps
      clear hp hb hS hps
      go_wp2_with fail
      rw [show ((dp : Int) + 1) = ((dp + 1 : Nat) : Int) from by omega]
      refine HC.out.mono ?_
      rintro e w1 ⟨gi, rfl, ht, hb1⟩
      have HT : Hid (Tree NdT d w1 n wr.heap.size w1.heap.size gi S) := ht
      have HB1 : Hid (Below wr.heap.size wr w1) := hb1
      have HP1 : Hid (Part NdT d 24 n (w.heap.size + 1) (subAt d n pos) k ps w1 v) := part_below ndT_own HP.out hb1
      have hcv : w1.cell? ⟨w.heap.size, 3, none⟩ = some v := by rw [← hc3]; exact hb1.cell (p := ⟨w.heap.size, 3, none⟩) (by show w.heap.size < _; omega)
      have hsz := hb1.size
      clear ht hb1
      obtain ⟨W1, rfl⟩ : ∃ W, W = w1 := ⟨_, rfl⟩
      go_wp2_with (at_builtin; refine wpList_append_lies _ rfl _ _ 33 rfl (w.heap.size + 1) 24 i0 (.pointer none) 1 8 Try.underlying33 HI.out.1 HI.out.2.1 HI.out.2.2.1 HI.out.2.2.2 rfl (by decide) v k ps rfl (HP1.out.owns.alloc _) ⟨W1.heap.size, 0, none⟩ 1 1 [.pointer (some ⟨gi, 0, none⟩)] rfl rfl (cell_one_new _ _ _) (by simp [Value.oneCell']) (by omega) (by unfold maxLen; omega) (by omega) (by simp; omega) (W1.heap.size + 1) (by simp) ?_; intro g cap' w2 hown2 hgrow2 hat hglt; have hst := round_step HP.out HNd.out hfz HB.out hz HB1.out (by rw [HSu.out]; exact HT.out) hown2 hgrow2 hat; have hc2 := hst.2.1; have hf2 := hst.2.2; have HR : Hid (Round d n pos 5 0 0 w (k + 1) (w2.setCell ⟨w.heap.size, 3, none⟩ (.slice (some ⟨g, 0, none⟩) (k + 1) cap'))) := hst.1; clear hst hown2 hgrow2 hat)
      go_roundw
      case rel => exact ⟨k + 1, by omega, by go_num, by rw [sub_succ, HSu.out], HR.out⟩
      case measure => simp [intOf]; omega
    · obtain rfl : k = m := by omega
      have HR : Hid (Round d n pos 5 0 0 w k wr) := ⟨ps, v, HP.out, HNd.out, hfz, hb, hz⟩
      clear hp hb hS
      go_wp2_with fail
      go_ret2
      refine round_end ?_ ?_ rfl
      · rw [EK.out, EMN.out, EMX.out, EM.out]; exact HR.out
      · rw [EM.out, HSu.out]

set_option maxHeartbeats 4000000 in
theorem decode_6 (d : List Int) (hd : d.length ≤ 70000) (hby : ∀ i, 0 ≤ d.getD i 0 ∧ d.getD i 0 ≤ 255) (n pos dp : Nat) (hdp : dp + (n + 1) = 48) (a : Option Addr) (cap : Nat) (w : World) (hc : Code' w a d) (hp0 : pos ≤ d.length) (hk : kindAt d (n + 1) pos = 6)
    (ih : ∀ (pos dp : Nat) (a : Option Addr) (cap : Nat) (w : World), dp + n = 48 → Code' w a d → pos ≤ d.length → Calls Try.prog 6 #[.slice a d.length cap, .int .i64 pos, .int .i64 dp] w fun e w' => Decoded d n pos w w' e) :
    Calls Try.prog 6 #[.slice a d.length cap, .int .i64 pos, .int .i64 dp] w fun e w' => Decoded d (n + 1) pos w w' e := by
  have IH : Hid (∀ (pos dp : Nat) (a : Option Addr) (cap : Nat) (w : World), dp + n = 48 → Code' w a d → pos ≤ d.length → Calls Try.prog 6 #[.slice a d.length cap, .int .i64 pos, .int .i64 dp] w fun e w' => Decoded d n pos w w' e) := ih
  have hlf : leafy d (n + 1) pos = false := by
    cases h : leafy d (n + 1) pos with
    | false => rfl
    | true => rw [leaf_kind h] at hk; omega
  have hpl : pos < d.length := by simp [leafy] at hlf; omega
  obtain ⟨ax, rfl, hblt, hcell⟩ := code_byte hc hpl
  have HCo : Hid (Code' w (some ax) d) := hc
  have hby1 := hby pos
  obtain ⟨B, hB⟩ : ∃ B : Nat, d.getD pos 0 = (B : Int) := Int.eq_ofNat_of_zero_le hby1.1
  have hB2 : at' d pos = B := by unfold at'; rw [hB]; simp
  rw [hB] at hcell hby1
  have hB1 : (B : Int) ≤ 255 := hby1.2
  have HS : Hid (startAt d pos = pos + 1) := by show startAt d pos = pos + 1; unfold startAt; rw [if_neg (by omega)]
  have hkk := read_kind hlf
  rw [hB2, hk] at hkk
  have hI : (B : Int) % 9 = 6 := by omega
  have EK : Hid (kindAt d (n + 1) pos = 6) := hk
  obtain ⟨m, hm⟩ : ∃ m, B / 9 % 4 = m := ⟨_, rfl⟩
  have EM : Hid (cntAt d (n + 1) pos = m) := by show _ = _; simp [cntAt, hk, hB2, hm]
  have EMN : Hid (minAt d (n + 1) pos = 0) := by show _ = _; simp [minAt, hk]
  have EMX : Hid (maxAt d (n + 1) pos = 0) := by show _ = _; simp [maxAt, hk]
  have hmI : (B : Int) / 9 % 4 = (m : Int) := by omega
  have hm3 : m ≤ 3 := by omega
  clear hm
  obtain ⟨i0, hi, hz0, hz1, hz2⟩ := info_parts info24
  have HI : Hid (Try.prog.info? 24 = some i0 ∧ i0.zero = some (.pointer none) ∧ i0.size = 1 ∧ i0.bytes = 8) := ⟨hi, hz0, hz1, hz2⟩
  clear hi hz0 hz1 hz2 hk hkk hB hB2 hby hby1 hlf hc ih
  have hdp2 : dp < 48 := by omega
  go_enter Try.func6, Try.ntmps6
  go_wp2_with fail
  go_loopw [1, 13, 14] (fun vp vi _ wr => ∃ k : Nat, k ≤ m ∧ vi = .int .i64 k ∧ vp = .int .i64 (subAt d n pos k) ∧ Round d n pos 6 0 0 w k wr) (fun _ v _ _ => m - (intOf v).toNat)
  case atStart => exact ⟨0, Nat.zero_le _, rfl, by rw [show subAt d n pos 0 = startAt d pos from rfl, HS.out]; rfl, round_start d n pos 6 0 0 w _ _ _ rfl rfl rfl⟩
  case round =>
    obtain ⟨k, hk, rfl, rfl, ps, v, hp, hn, hfz, hb, hz⟩ := hrel
    have hsl := sub_le d n pos k hp0
    have HP : Hid (Part NdT d 24 n (w.heap.size + 1) (subAt d n pos) k ps wr v) := hp
    have HNd : Hid (NdT wr w.heap.size 6 0 0 v) := hn
    obtain ⟨_, _, _, hc3⟩ := hn
    have HB : Hid (Below w.heap.size w wr) := hb
    obtain ⟨S, hS⟩ : ∃ S, subAt d n pos k = S := ⟨_, rfl⟩
    have HSu : Hid (subAt d n pos k = S) := hS
    rw [hS] at hsl
    rw [hS]
    by_cases hlt : k < m
    · have HC : Hid (Calls Try.prog 6 #[.slice (some ax) d.length cap, .int .i64 S, .int .i64 ((dp + 1 : Nat) : Int)] wr fun e w' => Decoded d n S wr w' e) := IH.out S (dp + 1) (some ax) cap wr (by omega) (code_below HCo.out (Nat.le_refl _) hb) hsl
      have hps : ps.length = k := by have := hp.owns.1; omega
      have HPS : Hid (ps.length = k) := hps
      clear hp hb hS hps
      go_wp2_with fail
      rw [show ((dp : Int) + 1) = ((dp + 1 : Nat) : Int) from by omega]
      refine HC.out.mono ?_
      rintro e w1 ⟨gi, rfl, ht, hb1⟩
      have HT : Hid (Tree NdT d w1 n wr.heap.size w1.heap.size gi S) := ht
      have HB1 : Hid (Below wr.heap.size wr w1) := hb1
      have HP1 : Hid (Part NdT d 24 n (w.heap.size + 1) (subAt d n pos) k ps w1 v) := part_below ndT_own HP.out hb1
      have hcv : w1.cell? ⟨w.heap.size, 3, none⟩ = some v := by rw [← hc3]; exact hb1.cell (p := ⟨w.heap.size, 3, none⟩) (by show w.heap.size < _; omega)
      have hsz := hb1.size
      clear ht hb1
      obtain ⟨W1, rfl⟩ : ∃ W, W = w1 := ⟨_, rfl⟩
      go_wp2_with (at_builtin; refine wpList_append_lies _ rfl _ _ 33 rfl (w.heap.size + 1) 24 i0 (.pointer none) 1 8 Try.underlying33 HI.out.1 HI.out.2.1 HI.out.2.2.1 HI.out.2.2.2 rfl (by decide) v k ps rfl (HP1.out.owns.alloc _) ⟨W1.heap.size, 0, none⟩ 1 1 [.pointer (some ⟨gi, 0, none⟩)] rfl rfl (cell_one_new _ _ _) (by simp [Value.oneCell']) (by omega) (by unfold maxLen; omega) (by omega) (by simp; omega) (W1.heap.size + 1) (by simp) ?_; intro g cap' w2 hown2 hgrow2 hat hglt; have hst := round_step HP.out HNd.out hfz HB.out hz HB1.out (by rw [HSu.out]; exact HT.out) hown2 hgrow2 hat; have hc2 := hst.2.1; have hf2 := hst.2.2; have HR : Hid (Round d n pos 6 0 0 w (k + 1) (w2.setCell ⟨w.heap.size, 3, none⟩ (.slice (some ⟨g, 0, none⟩) (k + 1) cap'))) := hst.1; clear hst hown2 hgrow2 hat)
      go_roundw
      case rel => exact ⟨k + 1, by omega, by go_num, by rw [sub_succ, HSu.out], HR.out⟩
      case measure => simp [intOf]; omega
    · obtain rfl : k = m := by omega
      have HR : Hid (Round d n pos 6 0 0 w k wr) := ⟨ps, v, HP.out, HNd.out, hfz, hb, hz⟩
      clear hp hb hS
      go_wp2_with fail
      go_ret2
      refine round_end ?_ ?_ rfl
      · rw [EK.out, EMN.out, EMX.out, EM.out]; exact HR.out
      · rw [EM.out, HSu.out]

set_option maxHeartbeats 4000000 in
theorem decode_7 (d : List Int) (hd : d.length ≤ 70000) (hby : ∀ i, 0 ≤ d.getD i 0 ∧ d.getD i 0 ≤ 255) (n pos dp : Nat) (hdp : dp + (n + 1) = 48) (a : Option Addr) (cap : Nat) (w : World) (hc : Code' w a d) (hp0 : pos ≤ d.length) (hk : kindAt d (n + 1) pos = 7)
    (ih : ∀ (pos dp : Nat) (a : Option Addr) (cap : Nat) (w : World), dp + n = 48 → Code' w a d → pos ≤ d.length → Calls Try.prog 6 #[.slice a d.length cap, .int .i64 pos, .int .i64 dp] w fun e w' => Decoded d n pos w w' e) :
    Calls Try.prog 6 #[.slice a d.length cap, .int .i64 pos, .int .i64 dp] w fun e w' => Decoded d (n + 1) pos w w' e := by
  have IH : Hid (∀ (pos dp : Nat) (a : Option Addr) (cap : Nat) (w : World), dp + n = 48 → Code' w a d → pos ≤ d.length → Calls Try.prog 6 #[.slice a d.length cap, .int .i64 pos, .int .i64 dp] w fun e w' => Decoded d n pos w w' e) := ih
  have hlf : leafy d (n + 1) pos = false := by
    cases h : leafy d (n + 1) pos with
    | false => rfl
    | true => rw [leaf_kind h] at hk; omega
  have hpl : pos < d.length := by simp [leafy] at hlf; omega
  obtain ⟨ax, rfl, hblt, hcell⟩ := code_byte hc hpl
  have HCo : Hid (Code' w (some ax) d) := hc
  have hby1 := hby pos
  obtain ⟨B, hB⟩ : ∃ B : Nat, d.getD pos 0 = (B : Int) := Int.eq_ofNat_of_zero_le hby1.1
  have hB2 : at' d pos = B := by unfold at'; rw [hB]; simp
  rw [hB] at hcell hby1
  have hB1 : (B : Int) ≤ 255 := hby1.2
  have HS : Hid (startAt d pos = pos + 1) := by show startAt d pos = pos + 1; unfold startAt; rw [if_neg (by omega)]
  have hkk := read_kind hlf
  rw [hB2, hk] at hkk
  have hI : (B : Int) % 9 = 7 := by omega
  have EK : Hid (kindAt d (n + 1) pos = 7) := hk
  obtain ⟨mn, hmn⟩ : ∃ mn, B / 9 % 3 = mn := ⟨_, rfl⟩
  obtain ⟨sel, hsel⟩ : ∃ sel, B / 27 % 3 = sel := ⟨_, rfl⟩
  have EM : Hid (cntAt d (n + 1) pos = 1) := by show _ = _; simp [cntAt, hk]
  have EMN : Hid (minAt d (n + 1) pos = mn) := by show _ = _; simp [minAt, hk, hB2, hmn]
  have EMX0 : maxAt d (n + 1) pos = mxOf (mn : Int) sel := by simp only [maxAt, hk, hB2, hmn, hsel]; rfl
  have hmnI : (B : Int) / 9 % 3 = (mn : Int) := by omega
  have hmn2 : mn ≤ 2 := by omega
  have hsel3 : sel = 0 ∨ sel = 1 ∨ sel = 2 := by omega
  have hselI : (B : Int) / 27 % 3 = (sel : Int) := by omega
  clear hmn hsel
  obtain ⟨i0, hi, hz0, hz1, hz2⟩ := info_parts info24
  have HI : Hid (Try.prog.info? 24 = some i0 ∧ i0.zero = some (.pointer none) ∧ i0.size = 1 ∧ i0.bytes = 8) := ⟨hi, hz0, hz1, hz2⟩
  clear hi hz0 hz1 hz2 hk hkk hB hB2 hby hby1 hlf hc ih
  have hdp2 : dp < 48 := by omega
  rcases hsel3 with rfl | rfl | rfl
  · have EMX : Hid (maxAt d (n + 1) pos = (-1)) := EMX0
    clear EMX0
    go_enter Try.func6, Try.ntmps6
    go_wp2_with fail
    go_loopw [1, 13, 14] (fun vp vi _ wr => ∃ k : Nat, k ≤ 1 ∧ vi = .int .i64 k ∧ vp = .int .i64 (subAt d n pos k) ∧ Round d n pos 7 mn (-1) w k wr) (fun _ v _ _ => 1 - (intOf v).toNat)
    case atStart => exact ⟨0, Nat.zero_le _, rfl, by rw [show subAt d n pos 0 = startAt d pos from rfl, HS.out]; rfl, round_start d n pos 7 mn (-1) w _ _ _ rfl rfl rfl⟩
    case round =>
      obtain ⟨k, hk, rfl, rfl, ps, v, hp, hn, hfz, hb, hz⟩ := hrel
      have hsl := sub_le d n pos k hp0
      have HP : Hid (Part NdT d 24 n (w.heap.size + 1) (subAt d n pos) k ps wr v) := hp
      have HNd : Hid (NdT wr w.heap.size 7 mn (-1) v) := hn
      obtain ⟨_, _, _, hc3⟩ := hn
      have HB : Hid (Below w.heap.size w wr) := hb
      obtain ⟨S, hS⟩ : ∃ S, subAt d n pos k = S := ⟨_, rfl⟩
      have HSu : Hid (subAt d n pos k = S) := hS
      rw [hS] at hsl
      rw [hS]
      by_cases hlt : k < 1
      · have HC : Hid (Calls Try.prog 6 #[.slice (some ax) d.length cap, .int .i64 S, .int .i64 ((dp + 1 : Nat) : Int)] wr fun e w' => Decoded d n S wr w' e) := IH.out S (dp + 1) (some ax) cap wr (by omega) (code_below HCo.out (Nat.le_refl _) hb) hsl
        have hps : ps.length = k := by have := hp.owns.1; omega
        have HPS : Hid (ps.length = k) := hps
        clear hp hb hS hps
        go_wp2_with fail
        rw [show ((dp : Int) + 1) = ((dp + 1 : Nat) : Int) from by omega]
        refine HC.out.mono ?_
        rintro e w1 ⟨gi, rfl, ht, hb1⟩
        have HT : Hid (Tree NdT d w1 n wr.heap.size w1.heap.size gi S) := ht
        have HB1 : Hid (Below wr.heap.size wr w1) := hb1
        have HP1 : Hid (Part NdT d 24 n (w.heap.size + 1) (subAt d n pos) k ps w1 v) := part_below ndT_own HP.out hb1
        have hcv : w1.cell? ⟨w.heap.size, 3, none⟩ = some v := by rw [← hc3]; exact hb1.cell (p := ⟨w.heap.size, 3, none⟩) (by show w.heap.size < _; omega)
        have hsz := hb1.size
        clear ht hb1
        obtain ⟨W1, rfl⟩ : ∃ W, W = w1 := ⟨_, rfl⟩
        go_wp2_with (at_builtin; refine wpList_append_lies _ rfl _ _ 33 rfl (w.heap.size + 1) 24 i0 (.pointer none) 1 8 Try.underlying33 HI.out.1 HI.out.2.1 HI.out.2.2.1 HI.out.2.2.2 rfl (by decide) v k ps rfl (HP1.out.owns.alloc _) ⟨W1.heap.size, 0, none⟩ 1 1 [.pointer (some ⟨gi, 0, none⟩)] rfl rfl (cell_one_new _ _ _) (by simp [Value.oneCell']) (by omega) (by unfold maxLen; omega) (by omega) (by simp; omega) (W1.heap.size + 1) (by simp) ?_; intro g cap' w2 hown2 hgrow2 hat hglt; have hst := round_step HP.out HNd.out hfz HB.out hz HB1.out (by rw [HSu.out]; exact HT.out) hown2 hgrow2 hat; have hc2 := hst.2.1; have hf2 := hst.2.2; have HR : Hid (Round d n pos 7 mn (-1) w (k + 1) (w2.setCell ⟨w.heap.size, 3, none⟩ (.slice (some ⟨g, 0, none⟩) (k + 1) cap'))) := hst.1; clear hst hown2 hgrow2 hat)
        go_roundw
        case rel => exact ⟨k + 1, by omega, by go_num, by rw [sub_succ, HSu.out], HR.out⟩
        case measure => simp [intOf]; omega
      · obtain rfl : k = 1 := by omega
        have HR : Hid (Round d n pos 7 mn (-1) w 1 wr) := ⟨ps, v, HP.out, HNd.out, hfz, hb, hz⟩
        clear hp hb hS
        go_wp2_with fail
        go_ret2
        refine round_end ?_ ?_ rfl
        · rw [EK.out, EMN.out, EMX.out, EM.out]; exact HR.out
        · rw [EM.out, HSu.out]
  · have EMX : Hid (maxAt d (n + 1) pos = (mn : Int)) := EMX0
    clear EMX0
    go_enter Try.func6, Try.ntmps6
    go_wp2_with fail
    go_loopw [1, 13, 14] (fun vp vi _ wr => ∃ k : Nat, k ≤ 1 ∧ vi = .int .i64 k ∧ vp = .int .i64 (subAt d n pos k) ∧ Round d n pos 7 mn (mn : Int) w k wr) (fun _ v _ _ => 1 - (intOf v).toNat)
    case atStart => exact ⟨0, Nat.zero_le _, rfl, by rw [show subAt d n pos 0 = startAt d pos from rfl, HS.out]; rfl, round_start d n pos 7 mn (mn : Int) w _ _ _ rfl rfl rfl⟩
    case round =>
      obtain ⟨k, hk, rfl, rfl, ps, v, hp, hn, hfz, hb, hz⟩ := hrel
      have hsl := sub_le d n pos k hp0
      have HP : Hid (Part NdT d 24 n (w.heap.size + 1) (subAt d n pos) k ps wr v) := hp
      have HNd : Hid (NdT wr w.heap.size 7 mn (mn : Int) v) := hn
      obtain ⟨_, _, _, hc3⟩ := hn
      have HB : Hid (Below w.heap.size w wr) := hb
      obtain ⟨S, hS⟩ : ∃ S, subAt d n pos k = S := ⟨_, rfl⟩
      have HSu : Hid (subAt d n pos k = S) := hS
      rw [hS] at hsl
      rw [hS]
      by_cases hlt : k < 1
      · have HC : Hid (Calls Try.prog 6 #[.slice (some ax) d.length cap, .int .i64 S, .int .i64 ((dp + 1 : Nat) : Int)] wr fun e w' => Decoded d n S wr w' e) := IH.out S (dp + 1) (some ax) cap wr (by omega) (code_below HCo.out (Nat.le_refl _) hb) hsl
        have hps : ps.length = k := by have := hp.owns.1; omega
        have HPS : Hid (ps.length = k) := hps
        clear hp hb hS hps
        go_wp2_with fail
        rw [show ((dp : Int) + 1) = ((dp + 1 : Nat) : Int) from by omega]
        refine HC.out.mono ?_
        rintro e w1 ⟨gi, rfl, ht, hb1⟩
        have HT : Hid (Tree NdT d w1 n wr.heap.size w1.heap.size gi S) := ht
        have HB1 : Hid (Below wr.heap.size wr w1) := hb1
        have HP1 : Hid (Part NdT d 24 n (w.heap.size + 1) (subAt d n pos) k ps w1 v) := part_below ndT_own HP.out hb1
        have hcv : w1.cell? ⟨w.heap.size, 3, none⟩ = some v := by rw [← hc3]; exact hb1.cell (p := ⟨w.heap.size, 3, none⟩) (by show w.heap.size < _; omega)
        have hsz := hb1.size
        clear ht hb1
        obtain ⟨W1, rfl⟩ : ∃ W, W = w1 := ⟨_, rfl⟩
        go_wp2_with (at_builtin; refine wpList_append_lies _ rfl _ _ 33 rfl (w.heap.size + 1) 24 i0 (.pointer none) 1 8 Try.underlying33 HI.out.1 HI.out.2.1 HI.out.2.2.1 HI.out.2.2.2 rfl (by decide) v k ps rfl (HP1.out.owns.alloc _) ⟨W1.heap.size, 0, none⟩ 1 1 [.pointer (some ⟨gi, 0, none⟩)] rfl rfl (cell_one_new _ _ _) (by simp [Value.oneCell']) (by omega) (by unfold maxLen; omega) (by omega) (by simp; omega) (W1.heap.size + 1) (by simp) ?_; intro g cap' w2 hown2 hgrow2 hat hglt; have hst := round_step HP.out HNd.out hfz HB.out hz HB1.out (by rw [HSu.out]; exact HT.out) hown2 hgrow2 hat; have hc2 := hst.2.1; have hf2 := hst.2.2; have HR : Hid (Round d n pos 7 mn (mn : Int) w (k + 1) (w2.setCell ⟨w.heap.size, 3, none⟩ (.slice (some ⟨g, 0, none⟩) (k + 1) cap'))) := hst.1; clear hst hown2 hgrow2 hat)
        go_roundw
        case rel => exact ⟨k + 1, by omega, by go_num, by rw [sub_succ, HSu.out], HR.out⟩
        case measure => simp [intOf]; omega
      · obtain rfl : k = 1 := by omega
        have HR : Hid (Round d n pos 7 mn (mn : Int) w 1 wr) := ⟨ps, v, HP.out, HNd.out, hfz, hb, hz⟩
        clear hp hb hS
        go_wp2_with fail
        go_ret2
        refine round_end ?_ ?_ rfl
        · rw [EK.out, EMN.out, EMX.out, EM.out]; exact HR.out
        · rw [EM.out, HSu.out]
  · have EMX : Hid (maxAt d (n + 1) pos = ((mn : Int) + 1)) := EMX0
    clear EMX0
    go_enter Try.func6, Try.ntmps6
    go_wp2_with fail
    go_loopw [1, 13, 14] (fun vp vi _ wr => ∃ k : Nat, k ≤ 1 ∧ vi = .int .i64 k ∧ vp = .int .i64 (subAt d n pos k) ∧ Round d n pos 7 mn ((mn : Int) + 1) w k wr) (fun _ v _ _ => 1 - (intOf v).toNat)
    case atStart => exact ⟨0, Nat.zero_le _, rfl, by rw [show subAt d n pos 0 = startAt d pos from rfl, HS.out]; rfl, round_start d n pos 7 mn ((mn : Int) + 1) w _ _ _ rfl rfl rfl⟩
    case round =>
      obtain ⟨k, hk, rfl, rfl, ps, v, hp, hn, hfz, hb, hz⟩ := hrel
      have hsl := sub_le d n pos k hp0
      have HP : Hid (Part NdT d 24 n (w.heap.size + 1) (subAt d n pos) k ps wr v) := hp
      have HNd : Hid (NdT wr w.heap.size 7 mn ((mn : Int) + 1) v) := hn
      obtain ⟨_, _, _, hc3⟩ := hn
      have HB : Hid (Below w.heap.size w wr) := hb
      obtain ⟨S, hS⟩ : ∃ S, subAt d n pos k = S := ⟨_, rfl⟩
      have HSu : Hid (subAt d n pos k = S) := hS
      rw [hS] at hsl
      rw [hS]
      by_cases hlt : k < 1
      · have HC : Hid (Calls Try.prog 6 #[.slice (some ax) d.length cap, .int .i64 S, .int .i64 ((dp + 1 : Nat) : Int)] wr fun e w' => Decoded d n S wr w' e) := IH.out S (dp + 1) (some ax) cap wr (by omega) (code_below HCo.out (Nat.le_refl _) hb) hsl
        have hps : ps.length = k := by have := hp.owns.1; omega
        have HPS : Hid (ps.length = k) := hps
        clear hp hb hS hps
        go_wp2_with fail
        rw [show ((dp : Int) + 1) = ((dp + 1 : Nat) : Int) from by omega]
        refine HC.out.mono ?_
        rintro e w1 ⟨gi, rfl, ht, hb1⟩
        have HT : Hid (Tree NdT d w1 n wr.heap.size w1.heap.size gi S) := ht
        have HB1 : Hid (Below wr.heap.size wr w1) := hb1
        have HP1 : Hid (Part NdT d 24 n (w.heap.size + 1) (subAt d n pos) k ps w1 v) := part_below ndT_own HP.out hb1
        have hcv : w1.cell? ⟨w.heap.size, 3, none⟩ = some v := by rw [← hc3]; exact hb1.cell (p := ⟨w.heap.size, 3, none⟩) (by show w.heap.size < _; omega)
        have hsz := hb1.size
        clear ht hb1
        obtain ⟨W1, rfl⟩ : ∃ W, W = w1 := ⟨_, rfl⟩
        go_wp2_with (at_builtin; refine wpList_append_lies _ rfl _ _ 33 rfl (w.heap.size + 1) 24 i0 (.pointer none) 1 8 Try.underlying33 HI.out.1 HI.out.2.1 HI.out.2.2.1 HI.out.2.2.2 rfl (by decide) v k ps rfl (HP1.out.owns.alloc _) ⟨W1.heap.size, 0, none⟩ 1 1 [.pointer (some ⟨gi, 0, none⟩)] rfl rfl (cell_one_new _ _ _) (by simp [Value.oneCell']) (by omega) (by unfold maxLen; omega) (by omega) (by simp; omega) (W1.heap.size + 1) (by simp) ?_; intro g cap' w2 hown2 hgrow2 hat hglt; have hst := round_step HP.out HNd.out hfz HB.out hz HB1.out (by rw [HSu.out]; exact HT.out) hown2 hgrow2 hat; have hc2 := hst.2.1; have hf2 := hst.2.2; have HR : Hid (Round d n pos 7 mn ((mn : Int) + 1) w (k + 1) (w2.setCell ⟨w.heap.size, 3, none⟩ (.slice (some ⟨g, 0, none⟩) (k + 1) cap'))) := hst.1; clear hst hown2 hgrow2 hat)
        go_roundw
        case rel => exact ⟨k + 1, by omega, by go_num, by rw [sub_succ, HSu.out], HR.out⟩
        case measure => simp [intOf]; omega
      · obtain rfl : k = 1 := by omega
        have HR : Hid (Round d n pos 7 mn ((mn : Int) + 1) w 1 wr) := ⟨ps, v, HP.out, HNd.out, hfz, hb, hz⟩
        clear hp hb hS
        go_wp2_with fail
        go_ret2
        refine round_end ?_ ?_ rfl
        · rw [EK.out, EMN.out, EMX.out, EM.out]; exact HR.out
        · rw [EM.out, HSu.out]

theorem decode_any (d : List Int) (hd : d.length ≤ 70000) (hby : ∀ i, 0 ≤ d.getD i 0 ∧ d.getD i 0 ≤ 255) : ∀ (n pos dp : Nat) (a : Option Addr) (cap : Nat) (w : World), dp + n = 48 → Code' w a d → pos ≤ d.length →
    Calls Try.prog 6 #[.slice a d.length cap, .int .i64 pos, .int .i64 dp] w fun e w' => Decoded d n pos w w' e := by
  intro n
  induction n with
  | zero => intro pos dp a cap w h1 h2 h3; exact decode_leaf d hd hby 0 pos dp h1 a cap w h2 h3 (kind_zero d pos)
  | succ n ih =>
    intro pos dp a cap w h1 h2 h3
    by_cases h4 : kindAt d (n + 1) pos = 4
    · exact decode_4 d hd hby n pos dp h1 a cap w h2 h3 h4 ih
    by_cases h5 : kindAt d (n + 1) pos = 5
    · exact decode_5 d hd hby n pos dp h1 a cap w h2 h3 h5 ih
    by_cases h6 : kindAt d (n + 1) pos = 6
    · exact decode_6 d hd hby n pos dp h1 a cap w h2 h3 h6 ih
    by_cases h7 : kindAt d (n + 1) pos = 7
    · exact decode_7 d hd hby n pos dp h1 a cap w h2 h3 h7 ih
    exact decode_leaf d hd hby (n + 1) pos dp h1 a cap w h2 h3 (by omega)
end Go.Proofs.Qxb6600465a.Ere

import Derived.Test.Qxb6605415aScan
import Derived.Test.Qxb6605415aDec
import Derived.Test.Qxb6605415aWritten
namespace Go.Proofs.Qxb6605415a.Reads
open Go.RowKit Go.Proofs.Qxb6605415a.Num Go.Proofs.Qxb6605415a.Scan Go.Proofs.Qxb6605415a.Dec

/-- A slice of bytes that came in: the bytes l lie at its address. -/
def Came (w : World) (a : Option Addr) (l : List Int) (cap : Nat) : Prop :=
  (a = none → l = [] ∧ cap = 0) ∧ ∀ ad, a = some ad → ∀ j u, (l.map (Value.int .u8))[j]? = some u → w.cell? (ad.add j) = some u

theorem isDigit_any (x : Int) (w : World) : Calls Try.prog 10 #[.int .u8 x] w fun e w' => e = .returned (.bool (dig x)) ∧ w' = w := by
  by_cases h : 48 ≤ x
  · go_enter Try.func10, Try.ntmps10
    go_wp2
    go_ret
    exact ⟨by simp [dig, h], rfl⟩
  · go_enter Try.func10, Try.ntmps10
    go_wp2
    go_ret
    exact ⟨by simp [dig]; omega, rfl⟩

theorem bytes9_any (n : Int) (hf : Bool) (fr : Int) (he : Bool) (ex : Int) (a : Option Addr) (len cap : Nat) (h : len ≤ maxLen) (w : World) :
    Calls Try.prog 9 #[.int .i64 n, .bool hf, .int .u64 fr, .bool he, .int .i64 ex, .slice a len cap] w fun e w' => ∃ b : Bool, e = .returned (.bool b) ∧ w' = w := by
  unfold maxLen at h
  go_enter Try.func9, Try.ntmps9
  go_wp2
  all_goals (go_ret; exact ⟨_, rfl, rfl⟩)

theorem came_head {w : World} {a : Option Addr} {x : Int} {l : List Int} {cap : Nat} (h : Came w a (x :: l) cap) : ∃ b off, a = some ⟨b, off, none⟩ ∧ w.cell? ⟨b, off, none⟩ = some (.int .u8 x) := by
  cases a with
  | none => have := (h.1 rfl).1; cases this
  | some ad =>
    have h1 := h.2 ad rfl 0 (.int .u8 x) rfl
    obtain ⟨b, off, spot⟩ := ad
    have hspot : spot = none := by simpa [Addr.add] using World.cell?_spot h1
    subst hspot
    exact ⟨b, off, rfl, by simpa [Addr.add] using h1⟩

theorem full_block {w : World} {B g n : Nat} {xs : List Value} (h : w.ownsRow B 5 1 (.slice (some ⟨g, 0, none⟩) n n) n xs) : w.heap[g]? = some (.cells xs.toArray 5 (0, 0)) := by
  obtain ⟨h1, h2⟩ := h
  rcases h2 with ⟨h', _⟩ | ⟨g', cap', cur, h', _, hg, _, _, hs, ht⟩
  · cases h'
  · simp only [Value.slice.injEq, Option.some.injEq, Addr.mk.injEq, and_true, true_and] at h'
    obtain ⟨rfl, rfl⟩ := h'
    rw [List.take_of_length_le (by simp; omega)] at ht
    rw [hg, ← ht]
theorem own_of_block {w : World} {B g n : Nat} {l : List Int} (hn : l.length = n) (hB : B ≤ g) (hm : n ≤ maxLen) (h : w.heap[g]? = some (.cells (l.map (Value.int .u8)).toArray 5 (0, 0))) : Own w B (.slice (some ⟨g, 0, none⟩) n n) l := by
  subst hn
  exact ⟨by simp, .inr ⟨g, _, _, rfl, hB, h, Nat.le_refl _, hm, by simp, by simp [List.take_of_length_le]⟩⟩
theorem splice_full {α : Type} (L cs : List α) (h : cs.length = L.length) : splice L 0 cs = cs := by
  unfold splice; rw [Nat.zero_add, h, List.drop_length]; simp
theorem came_of {w : World} {x : Addr} {len cap : Nat} {zs : List Int} (hlc : len ≤ cap) (hz : zs.length = cap) (hcell : ∀ i, i < zs.length → w.cell? (x.add i) = some (.int .u8 (zs.getD i 0))) : Came w (some x) (zs.take len) cap := by
  refine ⟨(fun h => by cases h), ?_⟩
  intro ad had j u hu
  obtain rfl := Option.some.inj had
  have hj : j < len := by have := (List.getElem?_eq_some_iff.1 hu).1; simp at this; omega
  have hj2 : j < zs.length := by omega
  rw [hcell j hj2, ← hu]
  simp [hj, hj2]
theorem came_nil (w : World) : Came w none [] 0 := ⟨fun _ => ⟨rfl, rfl⟩, (fun ad h => by cases h)⟩
theorem came_grown {w w1 : World} {ad : Addr} {l : List Int} {cap : Nat} (h : Came w (some ad) l cap) (hg : w.grownBy w1 none) (j : Nat) (v : Value) (hj : (l.map (Value.int .u8))[j]? = some v) : w1.cell? (ad.add j) = some v := by
  have h1 := h.2 ad rfl j v hj
  rw [← h1]
  exact hg.cell_far _ (World.block_lt_of_cell? w _ h1) (by simp)
theorem made_len (z : Array Value) (n : Nat) : (madeCells z n).toList.length = n := by simp [size_madeCells]

theorem own_lt {w : World} {B : Nat} {v : Value} {l : List Int} (h : Own w B v l) : ∀ k, v.ownBlock = some k → k < w.heap.size := by
  intro k hk
  rcases h.2 with ⟨rfl, _⟩ | ⟨g, cap, cur, rfl, hb, hg, _⟩
  · simp [Value.ownBlock] at hk
  · simp [Value.ownBlock] at hk
    subst hk
    rcases Nat.lt_or_ge g w.heap.size with hlt | hge
    · exact hlt
    · rw [Array.getElem?_eq_none hge] at hg; cases hg
theorem own_form {w : World} {B : Nat} {v : Value} {l : List Int} (h : Own w B v l) : ∃ ao c, v = .slice ao l.length c ∧ (ao = none → l.length = 0 ∧ c = 0) ∧ (∀ ad, ao = some ad → ∀ j u, (l.map (Value.int .u8))[j]? = some u → w.cell? (ad.add j) = some u) ∧ (∀ ad, ao = some ad → ad.block < w.heap.size) := by
  have hlt := own_lt h
  have h' := h
  obtain ⟨h1, h2⟩ := h
  rcases h2 with ⟨rfl, hn⟩ | ⟨g, cap, cur, rfl, hb, hg, _⟩
  · exact ⟨none, 0, by rw [hn], fun _ => ⟨hn, rfl⟩, (fun ad h => by cases h), (fun ad h => by cases h)⟩
  · refine ⟨some ⟨g, 0, none⟩, cap, rfl, (fun h => by cases h), ?_, ?_⟩
    · intro ad had j u hu
      obtain rfl := Option.some.inj had
      have hj : j < l.length * 1 := by have := (List.getElem?_eq_some_iff.1 hu).1; simpa using this
      rw [Addr.add_lit, Nat.zero_add, World.ownsRow.cellAt h' j hj]; exact hu
    · intro ad had
      obtain rfl := Option.some.inj had
      exact hlt g rfl
theorem own_below {w w' : World} {B : Nat} {v : Value} {l : List Int} (h : Own w B v l) (hb : Below w.heap.size w w') : Own w' B v l :=
  own_kept h fun k hk => hb.block k (own_lt h k hk)
theorem bytes_own {w : World} {B g n cap : Nat} {l : List Int} (hn : l.length = n) (h : Own w B (.slice (some ⟨g, 0, none⟩) n cap) l) : Bytes w g 0 l := by
  subst hn
  intro i hi
  rw [Nat.zero_add, World.ownsRow.cellAt h i (by omega)]
  simp [hi]
theorem far {w w1 : World} {row : Option Nat} (hg : w.grownBy w1 row) {a : Addr} {v : Value} (h : w.cell? a = some v) (hne : some a.block ≠ row) : w1.cell? a = some v := by
  rw [← h]; exact hg.cell_far _ (World.block_lt_of_cell? w _ h) hne
theorem add_block (a : Addr) (j : Nat) : (a.add j).block = a.block := by unfold Addr.add; split <;> rfl
theorem zzNumber_zero (b c : Nat) (d : List Int) (n : Nat) (hn : d.length = n) (hm : n ≤ 1000000) (w : World) (hb : Bytes w b 0 d) (hlt : b < w.heap.size) :
    Calls Try.prog 7 #[.slice (some ⟨b, 0, none⟩) n c, .int .i64 0] w fun e w' => e = .returned (.tuple #[.bool (numOk d 0), .int .i64 (numEnd d 0)]) ∧ Below w.heap.size w w' := by
  subst hn
  exact zzNumber_any b 0 c 0 d hm (by decide) w hb hlt

set_option maxHeartbeats 1000000 in
theorem reads_any (n : Int) (hn0 : -9223372036854775808 ≤ n) (hn1 : n ≤ 9223372036854775807) (hf : Bool) (fr : Int) (hf0 : 0 ≤ fr) (hf1 : fr ≤ 18446744073709551615) (he : Bool) (ex : Int) (he0 : -9223372036854775808 ≤ ex) (he1 : ex ≤ 9223372036854775807)
    (a : Option Addr) (l : List Int) (cap : Nat) (hm : l.length ≤ maxLen) (w : World) (hc : Came w a l cap) :
    Calls Try.prog 4 #[.int .i64 n, .bool hf, .int .u64 fr, .bool he, .int .i64 ex, .slice a l.length cap] w fun e w' => e = .returned (.bool true) ∧ Below w.heap.size w w' := by
  have hm2 := hm
  unfold maxLen at hm2
  have HC : Hid (Came w a l cap) := hc
  clear hc
  go_enter Try.func4, Try.ntmps4
  go_wp2_with fail
  refine (bytes9_any _ _ _ _ _ _ _ _ hm _).mono ?_
  rintro e w' ⟨b, rfl, hw⟩
  subst hw
  cases b
  · go_wp2
    go_ret
    exact ⟨rfl, Below.refl _ _⟩
  go_upto_region 5 with fail
  · go_ret
    exact ⟨rfl, Below.refl _ _⟩
  go_cut [55] from 18 to 54 (fun s wx => s = .bool (!stops l) ∧ w' = wx)
  case first =>
    cases l with
    | nil =>
      go_wp2
      go_meet
      exact ⟨rfl, rfl⟩
    | cons x l =>
      obtain ⟨b, off, rfl, hcell⟩ := came_head HC.out
      cases hd : dig x <;> cases h1 : (x == 46) <;> cases h2 : (x == 101) <;> cases h3 : (x == 69)
      all_goals
        have E : Hid (stops (x :: l) = !(dig x || x == 46 || x == 101 || x == 69)) := rfl
        rw [hd, h1, h2, h3] at E
        go_wp2_with (go_at_call 10; refine (isDigit_any x _).mono ?_; rintro e wy ⟨rfl, rfl⟩)
        go_meet
        exact ⟨by rw [E.out]; rfl, rfl⟩
  obtain ⟨rfl, rfl⟩ := hcut
  cases hst : stops l
  · go_wp2
    go_ret
    exact ⟨rfl, Below.refl _ _⟩
  have HS : Hid (stops l = true) := hst
  clear hst
  have hnil := fun (wz : World) (aa : Option Addr) (nn cc : Nat) => run_neq_slice_nil_any (P := Try.prog) wz 22 5 aa nn cc 0 0 Try.underlying22
  go_upto_if 57 with fail
  go_cut [5, 13] from 55 to 64 (fun v5 _ wx => Own wx w'.heap.size v5 l ∧ Below w'.heap.size w' wx)
  case first =>
    cases a with
    | none =>
      obtain ⟨rfl, rfl⟩ := HC.out.1 rfl
      go_wp2
      go_meet
      exact ⟨World.ownsRow_nil _ _ _ _, Below.refl _ _⟩
    | some ad =>
      obtain ⟨i0, hi, hz0, hz1, hz2⟩ := info_parts info5
      have HI : Hid (Try.prog.info? 5 = some i0 ∧ i0.zero = some (.int .u8 0) ∧ i0.size = 1 ∧ i0.bytes = 1) := ⟨hi, hz0, hz1, hz2⟩
      have hb1 : i0.bytes * l.length ≤ 281474976710656 := by rw [hz2]; omega
      clear hi hz0 hz1 hz2
      go_upto_region 9 with (at_make; refine wpList_make_full _ rfl _ _ 22 rfl w'.heap.size 5 i0 (.int .u8 0) 1 Try.underlying22 HI.out.1 HI.out.2.1 HI.out.2.2.1 _ _ _ _ l.length rfl rfl rfl rfl hb1 hm (Nat.le_refl _) ?_; intro w1 hown1 hgrow1)
      iterate 7 go_step
      refine wpList_copy_splice rfl _ _ 22 22 rfl 5 Try.underlying22 (by kernel_rfl) _ _ _ _ _ _ rfl rfl w'.heap.size 0 _ 5 (full_block hown1) (l.map (Value.int .u8)) (by rw [List.length_map]; exact (Nat.min_self _).symm) (fun _ => ⟨rfl, ad, rfl, came_grown HC.out hgrow1⟩) (by rw [List.length_map, made_len]; omega) (ints_oneCell _ _) w'.heap.size w' (Below.grown (Below.refl _ _) hgrow1 (Nat.le_refl _) (by intro k hk; cases hk)) (Nat.le_refl _) ?_
      intro w2 H2 hb2
      go_wp2
      go_meet
      exact ⟨own_of_block rfl (Nat.le_refl _) hm (by rw [H2.out, splice_full _ _ (by rw [List.length_map, made_len]; omega)]), hb2⟩
  obtain ⟨hown5, hb5⟩ := hcut
  obtain ⟨W5, rfl⟩ : ∃ W, W = wc := ⟨_, rfl⟩
  have H5 : Hid (Own W5 w'.heap.size u5 l) := hown5
  clear hown5
  obtain ⟨i0, hi, hz0, hz1, hz2⟩ := info_parts info5
  have HI : Hid (Try.prog.info? 5 = some i0 ∧ i0.zero = some (.int .u8 0) ∧ i0.size = 1 ∧ i0.bytes = 1) := ⟨hi, hz0, hz1, hz2⟩
  clear hi hz0 hz1 hz2
  go_upto_if 67 with (go_at_call 11; refine (appendInt_any W5.heap.size _ [] n hn0 hn1 _ (World.ownsRow_nil _ _ _ _) (by simp) (Nat.le_refl _)).mono ?_; rintro e wh ⟨vh, rfl, da, hownh, hda, hla, hbh⟩)
  have hownh2 : Own wh W5.heap.size vh da := by simpa using hownh
  have HA : Hid (Own wh W5.heap.size vh da) := hownh2
  have HD : Hid (wholeOk (unmi da) = true) := hda
  have hzh := hbh.size
  clear hownh hownh2 hda
  go_cut [1, 14] from 65 to 73 (fun s1 v14 wx => s1 = .bool hf ∧ ∃ hl, Own wx W5.heap.size v14 hl ∧ Below W5.heap.size W5 wx ∧ hl.length ≤ 50 ∧ Head1 hl)
  case first =>
    cases hf
    · go_wp2
      go_meet
      exact ⟨rfl, da, HA.out, hbh, by omega, head1_plain da HD.out⟩
    · go_wp2_with (first | (at_builtin; refine wpList_append_lies _ rfl _ _ 22 rfl W5.heap.size 5 i0 (.int .u8 0) 1 1 Try.underlying22 HI.out.1 HI.out.2.1 HI.out.2.2.1 HI.out.2.2.2 rfl (by decide) vh da.length (da.map (Value.int .u8)) rfl (HA.out.alloc _) ⟨wh.heap.size, 0, none⟩ 1 1 [.int .u8 46] rfl rfl (cell_one_new _ _ _) (by simp [Value.oneCell']) (by omega) (by unfold maxLen; omega) (by omega) (by simp; omega) (wh.heap.size + 1) (by simp) ?_; intro g cap w1 hown1 hgrow1 hat hlt) | (go_at_call 12; refine (appendUint_any W5.heap.size _ (da ++ [46]) fr hf0 hf1 _ (own_app (ds := [46]) rfl hown1) (by simp; omega) (Nat.le_trans (by simp; omega) hgrow1.size)).mono ?_; rintro e w2 ⟨v2, rfl, ds, hown2, hds, hlen, hbel⟩))
      go_meet
      exact ⟨rfl, da ++ [46] ++ ds, hown2, hbh.trans ((Below.grown ((Below.refl _ _).alloc hzh _) hgrow1 (by simp; omega) (own_block HA.out)).trans hbel), by simp; omega, head1_frac da ds HD.out hds⟩
  clear HA HD hzh hbh hla
  obtain ⟨rfl, hl, hown6, hb6, hl6, h16⟩ := hcut
  obtain ⟨W6, rfl⟩ : ∃ W, W = wc := ⟨_, rfl⟩
  have H6 : Hid (Own W6 W5.heap.size u14 hl) := hown6
  have H16 : Hid (Head1 hl) := h16
  have hz6 := hb6.size
  clear hown6 h16
  go_upto_if 74 with fail
  go_cut [3, 14] from 74 to 80 (fun s3 v14 wx => s3 = .bool he ∧ ∃ hm, Own wx W5.heap.size v14 hm ∧ Below W5.heap.size W5 wx ∧ hm.length ≤ 80 ∧ Head2 hm)
  case first =>
    cases he
    · go_wp2
      go_meet
      exact ⟨rfl, hl, H6.out, hb6, by omega, head2_plain hl H16.out⟩
    · go_wp2_with (first | (at_builtin; refine wpList_append_lies _ rfl _ _ 22 rfl W5.heap.size 5 i0 (.int .u8 0) 1 1 Try.underlying22 HI.out.1 HI.out.2.1 HI.out.2.2.1 HI.out.2.2.2 rfl (by decide) u14 hl.length (hl.map (Value.int .u8)) rfl (H6.out.alloc _) ⟨W6.heap.size, 0, none⟩ 1 1 [.int .u8 101] rfl rfl (cell_one_new _ _ _) (by simp [Value.oneCell']) (by omega) (by unfold maxLen; omega) (by omega) (by simp; omega) (W6.heap.size + 1) (by simp) ?_; intro g cap w1 hown1 hgrow1 hat hlt) | (go_at_call 11; refine (appendInt_any W5.heap.size _ (hl ++ [101]) ex he0 he1 _ (own_app (ds := [101]) rfl hown1) (by simp; omega) (Nat.le_trans (by simp; omega) hgrow1.size)).mono ?_; rintro e w2 ⟨v2, rfl, ds, hown2, hds, hlen, hbel⟩))
      go_meet
      exact ⟨rfl, hl ++ [101] ++ ds, hown2, hb6.trans ((Below.grown ((Below.refl _ _).alloc hz6 _) hgrow1 (by simp; omega) (own_block H6.out)).trans hbel), by simp; omega, head2_exp hl ds H16.out hds⟩
  clear H6 H16 hz6 hb6 hl6
  obtain ⟨rfl, hd, hown7, hb7, hl7, h27⟩ := hcut
  obtain ⟨W7, rfl⟩ : ∃ W, W = wc := ⟨_, rfl⟩
  have H5b : Own W7 w'.heap.size u5 l := own_below H5.out hb7
  obtain ⟨a5, c5, e5, n5, k5, t5⟩ := own_form H5b
  obtain ⟨a14, c14, e14, n14, k14, t14⟩ := own_form hown7
  have hnum : xNum (hd ++ l) = some hd.length := h27 l HS.out
  have HN1 : Hid (numOk (hd ++ l) 0 = true) := by show numOk (hd ++ l) 0 = true; simp [numOk, hnum]
  have HN2 : Hid (numEnd (hd ++ l) 0 = hd.length) := by show numEnd (hd ++ l) 0 = hd.length; simp [numEnd, hnum]
  have K5 : Hid (∀ ad, a5 = some ad → (∀ j u, (l.map (Value.int .u8))[j]? = some u → W7.cell? (ad.add j) = some u) ∧ ad.block < W7.heap.size) := fun ad had => ⟨k5 ad had, t5 ad had⟩
  have K14 : Hid (∀ ad, a14 = some ad → (∀ j u, (hd.map (Value.int .u8))[j]? = some u → W7.cell? (ad.add j) = some u) ∧ ad.block < W7.heap.size) := fun ad had => ⟨k14 ad had, t14 ad had⟩
  have N5 : Hid (a5 = none → l.length = 0 ∧ c5 = 0) := n5
  have N14 : Hid (a14 = none → hd.length = 0 ∧ c14 = 0) := n14
  have HB7 : Hid (Below w'.heap.size w' W7) := hb5.trans (hb7.mono hb5.size)
  have hz7 : w'.heap.size ≤ W7.heap.size := HB7.out.size
  rw [e5, e14]
  have hb1 : i0.bytes * (hd.length + l.length) ≤ 281474976710656 := by rw [HI.out.2.2.2]; omega
  clear H5 H5b e5 e14 n5 n14 k5 k14 t5 t14 hnum hown7 h27 hb7 hb5 HC HS
  go_wp2_with (first | (at_make; refine wpList_make_own _ rfl _ _ 22 rfl W7.heap.size 5 i0 (.int .u8 0) 1 Try.underlying22 HI.out.1 HI.out.2.1 HI.out.2.2.1 _ _ _ (hd.length + l.length) rfl rfl (by omega) hb1 (by unfold maxLen; omega) (Nat.le_refl _) ?_; intro w8 hown8 hgrow8) | (at_builtin; refine wpList_append_fits_any _ rfl (.tmp 87) (.tmp 88) 22 rfl W7.heap.size 5 i0 1 Try.underlying22 HI.out.1 HI.out.2.2.1 W7.heap.size 0 (hd.length + l.length) [] rfl hown8 a14 hd.length c14 (hd.map (Value.int .u8)) rfl (by simp) N14.out (fun ad had j u hu => far hgrow8 ((K14.out ad had).1 j u hu) (by simp)) (ints_oneCell _ _) (by omega) ?_; intro w9 hown9 hgrow9; simp only [Nat.zero_add, List.nil_append] at hown9) | (at_builtin; refine wpList_append_fits_any _ rfl (.tmp 90) (.tmp 91) 22 rfl W7.heap.size 5 i0 1 Try.underlying22 HI.out.1 HI.out.2.2.1 W7.heap.size hd.length (hd.length + l.length) (hd.map (Value.int .u8)) rfl hown9 a5 l.length c5 (l.map (Value.int .u8)) rfl (by simp) N5.out (fun ad had j u hu => far hgrow9 (far hgrow8 ((K5.out ad had).1 j u hu) (by simp)) (by have := (K5.out ad had).2; rw [add_block]; simp; omega)) (ints_oneCell _ _) (by omega) ?_; intro w10 hown10 hgrow10))
  have HO : Hid (Own w10 W7.heap.size (.slice (some ⟨W7.heap.size, 0, none⟩) (hd.length + l.length) (hd.length + l.length)) (hd ++ l)) := own_app rfl hown10
  have HB10 : Hid (Below w'.heap.size w' w10) := by
    have q8 : Below w'.heap.size w' w8 := Below.grown HB7.out hgrow8 hz7 (by intro k hk; cases hk)
    have q9 : Below w'.heap.size w' w9 := Below.grown q8 hgrow9 q8.size (by intro k hk; cases hk; exact hz7)
    exact Below.grown q9 hgrow10 q9.size (by intro k hk; cases hk; exact hz7)
  refine (zzNumber_zero W7.heap.size (hd.length + l.length) (hd ++ l) (hd.length + l.length) (by simp) (by omega) w10 (bytes_own (by simp) HO.out) (own_lt HO.out _ rfl)).mono ?_
  rintro e w11 ⟨rfl, hb11⟩
  rw [HN1.out, HN2.out]
  have HF : Hid (Below w'.heap.size w' w11) := HB10.out.trans (hb11.mono HB10.out.size)
  clear hown8 hown9 hown10 hgrow8 hgrow9 hgrow10 hb11
  go_wp2
  go_ret
  exact ⟨rfl, HF.out⟩
end Go.Proofs.Qxb6605415a.Reads

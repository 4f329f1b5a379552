import Derived.Test.Qxb6605415aJson
namespace Go.Proofs.Qxb6605415a.Model
open Go.RowKit Go.Proofs.Qxb6605415a.Num Go.Proofs.Qxb6605415a.Scan Go.Proofs.Qxb6605415a.Dec Go.Proofs.Qxb6605415a.Reads Go.Proofs.Qxb6605415a.Json

theorem cell_heap {w : World} {g i : Nat} {arr : Array Value} {t : TypeId} {fr : Nat × Nat} (h : w.heap[g]? = some (.cells arr t fr)) : w.cell? ⟨g, i, none⟩ = arr[i]? := by
  simp [World.cell?, h]
theorem frozen_heap {w : World} {g i : Nat} {arr : Array Value} {t : TypeId} (h : w.heap[g]? = some (.cells arr t (0, 0))) : w.frozen? ⟨g, i, none⟩ = false := by
  simp [World.frozen?, h]

/-- The row that 'beginsNumber' lays: u, then one byte more. -/
theorem row_cells {w : World} {g : Nat} {l : List Int} {z : List Value} (hz : z.length = l.length + 1) (h : w.heap[g]? = some (.cells (splice z 0 (l.map (Value.int .u8))).toArray 5 (0, 0))) :
    (∀ i, i < l.length → w.cell? ⟨g, i, none⟩ = some (.int .u8 (l.getD i 0))) ∧ ∃ old, w.cell? ⟨g, l.length, none⟩ = some old := by
  constructor
  · intro i hi
    rw [cell_heap h]
    simp [splice]
    rw [List.getElem?_append_left (by simpa using hi)]
    simp [hi]
  · rw [cell_heap h]
    exact ⟨_, Array.getElem?_eq_getElem (by simp [splice]; omega)⟩
theorem row_set {w : World} {g : Nat} {l : List Int} {old : Value} (h : ∀ i, i < l.length → w.cell? ⟨g, i, none⟩ = some (.int .u8 (l.getD i 0))) (ho : w.cell? ⟨g, l.length, none⟩ = some old) : Bytes (w.setCell ⟨g, l.length, none⟩ (.int .u8 48)) g 0 (l ++ [48]) := by
  intro i hi
  rw [Nat.zero_add]
  simp at hi
  by_cases e : i = l.length
  · subst e
    rw [World.cell?_setCell_same _ _ _ ho]
    simp
  · rw [World.cell?_setCell_other _ _ _ _ (fun h' => e (congrArg Addr.off h').symm), h i (by omega)]
    simp [List.getElem?_append_left, show i < l.length by omega]

theorem isJSON_n (b off c n : Nat) (l : List Int) (hl : l.length = n) (hn : n ≤ 1000000) (hc : n ≤ c) (w : World) (hb : Bytes w b off l) :
    Calls Try.prog 17 #[.slice (some ⟨b, off, none⟩) n c] w fun e w' => e = .returned (.bool (isNum l)) ∧ w' = w := by
  subst hl; exact isJSON_any b off c l hn hc w hb

set_option maxHeartbeats 1000000 in
theorem begins_any (b off c : Nat) (l : List Int) (hn : l.length ≤ 900000) (hc : l.length ≤ c) (w : World) (hb : Bytes w b off l) :
    Calls Try.prog 16 #[.slice (some ⟨b, off, none⟩) l.length c] w fun e w' => e = .returned (.bool (begins l)) ∧ Below w.heap.size w w' := by
  have HB : Hid (Bytes w b off l) := hb
  clear hb
  go_enter Try.func16, Try.ntmps16
  go_wp2_with fail
  refine (isJSON_any b off c l (by omega) hc _ HB.out).mono ?_
  rintro e w' ⟨rfl, hw⟩
  subst hw
  cases h1 : isNum l
  case true =>
    have HF : Hid (begins l = true) := by show begins l = true; unfold begins; rw [h1]; rfl
    go_wp2
    go_ret
    exact ⟨by rw [HF.out]; rfl, Below.refl _ _⟩
  have HF : Hid (begins l = isNum (l ++ [48])) := by show begins l = _; unfold begins; rw [h1]; rfl
  clear h1
  obtain ⟨i0, hi, hz0, hz1, hz2⟩ := info_parts info5
  have HI : Hid (Try.prog.info? 5 = some i0 ∧ i0.zero = some (.int .u8 0) ∧ i0.size = 1 ∧ i0.bytes = 1) := ⟨hi, hz0, hz1, hz2⟩
  have hb1 : i0.bytes * (l.length + 1) ≤ 281474976710656 := by rw [hz2]; omega
  clear hi hz0 hz1 hz2
  go_upto_region 4 with (at_make; refine wpList_make_full _ rfl _ _ 22 rfl w'.heap.size 5 i0 (.int .u8 0) 1 Try.underlying22 HI.out.1 HI.out.2.1 HI.out.2.2.1 _ _ _ _ (l.length + 1) rfl rfl (by omega) (by omega) hb1 (by unfold maxLen; omega) (Nat.le_refl _) ?_; intro w1 hown1 hgrow1)
  iterate 7 go_step
  refine wpList_copy_splice rfl _ _ 22 22 rfl 5 Try.underlying22 (by kernel_rfl) _ _ _ _ _ _ rfl rfl w'.heap.size 0 _ 5 (full_block hown1) (l.map (Value.int .u8)) (by rw [List.length_map]; exact (Nat.min_eq_left (by omega)).symm) (fun _ => ⟨rfl, ⟨b, off, none⟩, rfl, fun j v hj => ?_⟩) (by rw [List.length_map, made_len]; omega) (ints_oneCell _ _) w'.heap.size w' (Below.grown (Below.refl _ _) hgrow1 (Nat.le_refl _) (by intro k hk; cases hk)) (Nat.le_refl _) ?_
  · have hjl : j < l.length := by have := (List.getElem?_eq_some_iff.1 hj).1; simpa using this
    rw [Addr.add_lit]
    refine far hgrow1 ?_ (by simp)
    rw [HB.out j hjl, ← hj]; simp [hjl]
  intro w2 H2 hb2
  obtain ⟨hc2, old, ho2⟩ := row_cells (by rw [made_len]; omega) H2.out
  have hf2 : w2.frozen? ⟨w'.heap.size, l.length, none⟩ = false := frozen_heap H2.out
  have HB2 : Hid (Bytes (w2.setCell ⟨w'.heap.size, l.length, none⟩ (.int .u8 48)) w'.heap.size 0 (l ++ [48])) := row_set hc2 ho2
  clear hc2 hown1 hgrow1
  go_wp2_with fail
  refine (isJSON_n w'.heap.size 0 (l.length + 1) (l.length + 1) (l ++ [48]) (by simp) (by omega) (Nat.le_refl _) _ HB2.out).mono ?_
  rintro e w3 ⟨rfl, hw⟩
  subst hw
  have HG : Hid (Below w'.heap.size w' (w2.setCell ⟨w'.heap.size, l.length, none⟩ (.int .u8 48))) := Below.setCell (p := ⟨w'.heap.size, l.length, none⟩) hb2 (Nat.le_refl _) _
  go_wp2
  go_ret
  exact ⟨by rw [HF.out]; rfl, HG.out⟩

theorem begins_n (b off c n : Nat) (l : List Int) (hl : l.length = n) (hn : n ≤ 900000) (hc : n ≤ c) (w : World) (hb : Bytes w b off l) :
    Calls Try.prog 16 #[.slice (some ⟨b, off, none⟩) n c] w fun e w' => e = .returned (.bool (begins l)) ∧ Below w.heap.size w w' := by
  subst hl; exact begins_any b off c l hn hc w hb

theorem slice_to' (b off n c m : Nat) (i : Int) (hi : i = (m : Int)) (h : m ≤ n) (hn : n ≤ c) (w : World) : (Instr.sliceAt 22 (.slice (some ⟨b, off, none⟩) n c) none (some (.int .i64 i)) none).run Try.prog w = .ok (.slice (some ⟨b, off, none⟩) m c) w := by
  subst hi; exact slice_to b off n c m h hn w
theorem bytes_below {w w' : World} {b off : Nat} {l : List Int} (h : Bytes w b off l) (hlt : b < w.heap.size) (hb : Below w.heap.size w w') : Bytes w' b off l := fun i hi => by
  rw [← h i hi]; exact hb.cell (p := ⟨b, off + i, none⟩) hlt

theorem num_at_best (d : List Int) (p : Nat) : (isNum ((d.drop p).take (best (d.drop p))) = true → numOk d p = true ∧ numEnd d p = p + best (d.drop p)) ∧ (isNum ((d.drop p).take (best (d.drop p))) = false → numOk d p = false ∧ numEnd d p = p) := by
  constructor
  · intro h
    simp [numOk, numEnd, xNum_best, h]
  · intro h
    simp [numOk, numEnd, xNum_best, h]

set_option maxHeartbeats 1000000 in
theorem model_any (b off c p : Nat) (d : List Int) (hn : d.length ≤ 800000) (hc : d.length ≤ c) (hp : p ≤ 9223372036854775807) (w : World) (hb : Bytes w b off d) (hlt : b < w.heap.size) :
    Calls Try.prog 8 #[.slice (some ⟨b, off, none⟩) d.length c, .int .i64 p] w fun e w' => e = .returned (.tuple #[.bool (numOk d p), .int .i64 (numEnd d p)]) ∧ Below w.heap.size w w' := by
  have HB : Hid (Bytes w b off d) := hb
  clear hb
  by_cases hpl : p < d.length
  case neg =>
    have HN : Hid (numOk d p = false ∧ numEnd d p = p) := by
      show _ ∧ _
      simp [numOk, numEnd, drop_ge hpl, xNum]
    go_enter Try.func8, Try.ntmps8
    go_wp2
    go_ret2
    exact ⟨by rw [HN.out.1, HN.out.2]; rfl, Below.refl _ _⟩
  obtain ⟨t, ht⟩ : ∃ t, d.drop p = t := ⟨_, rfl⟩
  have htl : t.length = d.length - p := by rw [← ht]; simp
  have HT : Hid (Bytes w b (off + p) t) := by
    show Bytes w b (off + p) t
    have := bytes_from HB.out hc p
    rw [ht, offAt, if_neg (by omega)] at this
    exact this
  have hs := slice_from b off d.length c p p rfl (by omega) hc
  rw [offAt, if_neg (by omega), ← htl] at hs
  have NB := num_at_best d p
  rw [ht] at NB
  have HNB : Hid ((isNum (t.take (best t)) = true → numOk d p = true ∧ numEnd d p = p + best t) ∧ (isNum (t.take (best t)) = false → numOk d p = false ∧ numEnd d p = p)) := NB
  have hbt := best_le t
  have hct : t.length ≤ c - p := by omega
  have HTL : Hid (t.length = d.length - p) := htl
  have htb : t.length ≤ 800000 := by omega
  clear NB ht htl
  have hge : decide (d.length ≤ p) = false := by simp; omega
  go_enter Try.func8, Try.ntmps8
  go_wp2
  go_loopw [7] (fun v wr => ∃ k : Nat, v = .int .i64 k ∧ k ≤ best t ∧ Below w.heap.size w wr) (fun v _ => t.length - (intOf v).toNat)
  case atStart => exact ⟨0, rfl, Nat.zero_le _, Below.refl _ _⟩
  case round =>
    obtain ⟨k, rfl, hk, hbel⟩ := hrel
    have HTR : Hid (Bytes wr b (off + p) t) := bytes_below HT.out hlt hbel
    have hlp : t.length + p ≤ 800000 := by have := HTL.out; omega
    by_cases hlt2 : k < t.length
    · have hs1 := slice_to' b (off + p) t.length (c - p) (k + 1) ((k : Int) + 1) (by omega) (by omega) hct
      have hbeg := begins_take t (k + 1) (by omega)
      by_cases hkb : k + 1 ≤ best t
      · rw [decide_eq_true hkb] at hbeg
        go_wp2_with (go_at_call 16; refine (begins_n b (off + p) (c - p) (k + 1) (t.take (k + 1)) (by simp; omega) (by omega) (by omega) _ (bytes_take HTR.out (k + 1))).mono ?_; rintro e wy ⟨rfl, hby⟩)
        go_roundw
        case rel => exact ⟨k + 1, by go_num, hkb, hbel.trans (hby.mono hbel.size)⟩
        case measure => simp [intOf]; omega
      · rw [decide_eq_false hkb] at hbeg
        have hkb2 : k = best t := by omega
        have HNK : Hid ((isNum (t.take k) = true → numOk d p = true ∧ numEnd d p = p + k) ∧ (isNum (t.take k) = false → numOk d p = false ∧ numEnd d p = p)) := by have := HNB.out; rw [← hkb2] at this; exact this
        clear HNB hkb2
        have hs2 := slice_to' b (off + p) t.length (c - p) k k rfl (by omega) hct
        cases hi : isNum (t.take k)
        · have HR : Hid (numOk d p = false ∧ numEnd d p = p) := HNK.out.2 hi
          go_wp2_with (first | (go_at_call 16; refine (begins_n b (off + p) (c - p) (k + 1) (t.take (k + 1)) (by simp; omega) (by omega) (by omega) _ (bytes_take HTR.out (k + 1))).mono ?_; rintro e wy ⟨rfl, hby⟩) | (go_at_call 17; refine (isJSON_n b (off + p) (c - p) k (t.take k) (by simp; omega) (by omega) (by omega) _ (bytes_take (bytes_below HT.out hlt (hbel.trans (hby.mono hbel.size))) k)).mono ?_; rintro e wz ⟨rfl, hw⟩; subst hw))
          go_ret2
          exact ⟨by rw [HR.out.1, HR.out.2]; rfl, hbel.trans (hby.mono hbel.size)⟩
        · have HR : Hid (numOk d p = true ∧ numEnd d p = p + k) := HNK.out.1 hi
          go_wp2_with (first | (go_at_call 16; refine (begins_n b (off + p) (c - p) (k + 1) (t.take (k + 1)) (by simp; omega) (by omega) (by omega) _ (bytes_take HTR.out (k + 1))).mono ?_; rintro e wy ⟨rfl, hby⟩) | (go_at_call 17; refine (isJSON_n b (off + p) (c - p) k (t.take k) (by simp; omega) (by omega) (by omega) _ (bytes_take (bytes_below HT.out hlt (hbel.trans (hby.mono hbel.size))) k)).mono ?_; rintro e wz ⟨rfl, hw⟩; subst hw))
          go_ret2
          exact ⟨by rw [HR.out.1, HR.out.2]; rfl, hbel.trans (hby.mono hbel.size)⟩
    · have hkb2 : k = best t := by omega
      have HNK : Hid ((isNum (t.take k) = true → numOk d p = true ∧ numEnd d p = p + k) ∧ (isNum (t.take k) = false → numOk d p = false ∧ numEnd d p = p)) := by have := HNB.out; rw [← hkb2] at this; exact this
      clear HNB hkb2
      have hs2 := slice_to' b (off + p) t.length (c - p) k k rfl (by omega) hct
      cases hi : isNum (t.take k)
      · have HR : Hid (numOk d p = false ∧ numEnd d p = p) := HNK.out.2 hi
        go_wp2_with (go_at_call 17; refine (isJSON_n b (off + p) (c - p) k (t.take k) (by simp; omega) (by omega) (by omega) _ (bytes_take (HTR.out) k)).mono ?_; rintro e wz ⟨rfl, hw⟩; subst hw)
        go_ret2
        exact ⟨by rw [HR.out.1, HR.out.2]; rfl, hbel⟩
      · have HR : Hid (numOk d p = true ∧ numEnd d p = p + k) := HNK.out.1 hi
        go_wp2_with (go_at_call 17; refine (isJSON_n b (off + p) (c - p) k (t.take k) (by simp; omega) (by omega) (by omega) _ (bytes_take (HTR.out) k)).mono ?_; rintro e wz ⟨rfl, hw⟩; subst hw)
        go_ret2
        exact ⟨by rw [HR.out.1, HR.out.2]; rfl, hbel⟩

theorem model_nil (p : Nat) (w : World) :
    Calls Try.prog 8 #[.slice none 0 0, .int .i64 p] w fun e w' => e = .returned (.tuple #[.bool false, .int .i64 p]) ∧ w' = w := by
  have hp : (0 : Int) ≤ (p : Int) := by omega
  go_enter Try.func8, Try.ntmps8
  go_wp2
  go_ret2
  exact ⟨rfl, rfl⟩
end Go.Proofs.Qxb6605415a.Model

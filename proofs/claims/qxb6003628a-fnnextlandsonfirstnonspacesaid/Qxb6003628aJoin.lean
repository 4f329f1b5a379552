import Derived.Test.Qxb6003628aClone
namespace Go.Proofs.Qxb6003628a.Walker
open Go.RowKit Go.Proofs.Qxb6003628a.Space

/-- The slice v is nil or lies in a row of the call's own (a block from B on), and holds the bytes l. -/
def Own (w : World) (B : Nat) (v : Value) (l : List Int) : Prop := w.ownsRow B 5 1 v l.length (l.map (Value.int .u8))
theorem own_block {w : World} {B : Nat} {v : Value} {l : List Int} (h : Own w B v l) : ∀ k, v.ownBlock = some k → B ≤ k := by
  intro k hk
  rcases h.2 with ⟨rfl, _⟩ | ⟨g, cap, cur, rfl, hb, _⟩
  · simp [Value.ownBlock] at hk
  · simp [Value.ownBlock] at hk; omega
theorem own_app {w : World} {B : Nat} {v : Value} {l ds : List Int} {n : Nat} (hn : ds.length = n) (h : w.ownsRow B 5 1 v (l.length + n) (l.map (Value.int .u8) ++ ds.map (Value.int .u8))) : Own w B v (l ++ ds) := by
  subst hn
  unfold Own
  rw [List.length_append, List.map_append]; exact h
/-- What a value looks like that owns bytes. -/
theorem own_form {w : World} {B : Nat} {v : Value} {l : List Int} (h : Own w B v l) : ∃ a c, v = .slice a l.length c ∧ l.length ≤ c ∧ At w a l ∧ ∀ ad, a = some ad → ad.block < w.heap.size := by
  have h' := h
  obtain ⟨h1, h2⟩ := h
  rcases h2 with ⟨rfl, hn⟩ | ⟨g, cap, cur, rfl, hb, hg, hcap, _⟩
  · exact ⟨none, 0, by rw [hn], by omega, .inl (List.eq_nil_of_length_eq_zero hn), (fun ad h => by cases h)⟩
  · refine ⟨some ⟨g, 0, none⟩, cap, rfl, hcap, .inr ⟨g, 0, rfl, owns_lt h', ?_⟩, ?_⟩
    · intro i hi
      rw [Nat.zero_add, World.ownsRow.cellAt h' i (by omega)]
      simp [hi]
    · intro ad had
      obtain rfl := Option.some.inj had
      exact owns_lt h'

set_option maxHeartbeats 2000000 in
theorem join_any (a1 : Option Addr) (l1 : List Int) (c1 : Nat) (a2 : Option Addr) (l2 : List Int) (c2 : Nat) (a3 : Option Addr) (l3 : List Int) (c3 : Nat) (n1 : l1.length ≤ 70000) (n2 : l2.length ≤ 70000) (n3 : l3.length ≤ 70000) (w : World) (h1 : At w a1 l1) (h2 : At w a2 l2) (h3 : At w a3 l3) :
    Calls Try.prog 14 #[.slice a1 l1.length c1, .slice a2 l2.length c2, .slice a3 l3.length c3] w fun e w' => ∃ v, e = .returned v ∧ Own w' w.heap.size v (l1 ++ l2 ++ l3) ∧ Below w.heap.size w w' := by
  obtain ⟨i0, hi, hz0, hz1, hz2⟩ := info_parts info5
  have HI : Hid (Try.prog.info? 5 = some i0 ∧ i0.zero = some (.int .u8 0) ∧ i0.size = 1 ∧ i0.bytes = 1) := ⟨hi, hz0, hz1, hz2⟩
  have hb1 : i0.bytes * (l1.length + l2.length + l3.length) ≤ 281474976710656 := by rw [hz2]; omega
  clear hi hz0 hz1 hz2
  have H1 : Hid (At w a1 l1) := h1
  have H2 : Hid (At w a2 l2) := h2
  have H3 : Hid (At w a3 l3) := h3
  clear h1 h2 h3
  go_enter Try.func14, Try.ntmps14
  go_wp2_with (at_make; refine wpList_make_own _ rfl _ _ 22 rfl w.heap.size 5 i0 (.int .u8 0) 1 Try.underlying22 HI.out.1 HI.out.2.1 HI.out.2.2.1 _ _ _ (l1.length + l2.length + l3.length) rfl rfl (by omega) hb1 (by unfold maxLen; omega) (Nat.le_refl _) ?_; intro w0 hown0 hgrow0)
  have O0b : Below w.heap.size w w0 := Below.grown (Below.refl _ _) hgrow0 (Nat.le_refl _) (by intro k hk; cases hk)
  have O0 : Hid (Own w0 w.heap.size (.slice (some ⟨w.heap.size, 0, none⟩) 0 (l1.length + l2.length + l3.length)) []) := hown0
  clear hown0 hgrow0

  go_loopw [7, 8] (fun v7 v8 wr => ∃ k : Nat, v8 = .int .i64 k ∧ k ≤ l1.length ∧ Own wr w.heap.size v7 (l1.take k) ∧ Below w.heap.size w wr) (fun _ v _ => l1.length - (intOf v).toNat)
  case atStart => exact ⟨0, rfl, Nat.zero_le _, by simpa using O0.out, O0b⟩
  case round =>
    obtain ⟨k, rfl, hk, hown, hbel⟩ := hrel
    have HO : Hid (Own wr w.heap.size u7 (l1.take k)) := hown
    have hz := hbel.size
    clear hown
    by_cases hlt : k < l1.length
    · obtain ⟨b, off, rfl, hblt, hcell⟩ := at_byte H1.out hlt
      have hcell2 : wr.cell? ⟨b, off + k, none⟩ = some (.int .u8 (l1.getD k 0)) := by rw [← hcell]; exact hbel.cell (p := ⟨b, off + k, none⟩) hblt
      obtain ⟨x, hx⟩ : ∃ x, l1.getD k 0 = x := ⟨_, rfl⟩
      rw [hx] at hcell2
      have HS : Hid (l1.take (k + 1) = (l1.take k) ++ [x]) := by
        show _ = _
        rw [← hx, List.take_succ_eq_append_getElem hlt]
        simp [List.getD, hlt]
      have hlen : (l1.take k).length ≤ 300000 := by simp; omega
      clear hx hcell
      go_wp2_with (at_builtin; refine wpList_append_lies _ rfl _ _ 22 rfl w.heap.size 5 i0 (.int .u8 0) 1 1 Try.underlying22 HI.out.1 HI.out.2.1 HI.out.2.2.1 HI.out.2.2.2 rfl (by decide) u7 (l1.take k).length ((l1.take k).map (Value.int .u8)) rfl (HO.out.alloc _) ⟨wr.heap.size, 0, none⟩ 1 1 [.int .u8 x] rfl rfl (cell_one_new _ _ _) (by simp [Value.oneCell']) (by omega) (by unfold maxLen; omega) (by omega) (by simp; omega) (wr.heap.size + 1) (by simp) ?_; intro g cap w1 hown1 hgrow1 hat hglt)
      have hlx : (l1.take k).length = k := by simp; omega
      have HO2 : Hid (Own w1 w.heap.size (.slice (some ⟨g, 0, none⟩) (k + 1) cap) (l1.take (k + 1))) := by show Own _ _ _ _; have h := own_app (ds := [x]) rfl hown1; rw [hlx] at h; rw [HS.out]; exact h
      clear hlx
      have HB2 : Hid (Below w.heap.size w w1) := Below.grown (hbel.alloc hz _) hgrow1 (by simp; omega) (own_block HO.out)
      clear hown1 hgrow1
      go_roundw
      case rel => exact ⟨k + 1, by go_num, by omega, HO2.out, HB2.out⟩
      case measure => simp [intOf]; omega
    · obtain rfl : k = l1.length := by omega
      have O1b := hbel
      have O1 : Hid (Own wr w.heap.size u7 l1) := by show Own _ _ _ _; have := HO.out; rw [List.take_length] at this; exact this
      clear HO hbel hz hk hlt
      obtain ⟨W1, rfl⟩ : ∃ W, W = wr := ⟨_, rfl⟩
      go_wp2

      go_loopw [7, 9] (fun v7 v8 wr => ∃ k : Nat, v8 = .int .i64 k ∧ k ≤ l2.length ∧ Own wr w.heap.size v7 (l1 ++ l2.take k) ∧ Below w.heap.size w wr) (fun _ v _ => l2.length - (intOf v).toNat)
      case atStart => exact ⟨0, rfl, Nat.zero_le _, by simpa using O1.out, O1b⟩
      case round =>
        obtain ⟨k, rfl, hk, hown, hbel⟩ := hrel
        have HO : Hid (Own wr w.heap.size u7 (l1 ++ l2.take k)) := hown
        have hz := hbel.size
        clear hown
        by_cases hlt : k < l2.length
        · obtain ⟨b, off, rfl, hblt, hcell⟩ := at_byte H2.out hlt
          have hcell2 : wr.cell? ⟨b, off + k, none⟩ = some (.int .u8 (l2.getD k 0)) := by rw [← hcell]; exact hbel.cell (p := ⟨b, off + k, none⟩) hblt
          obtain ⟨x, hx⟩ : ∃ x, l2.getD k 0 = x := ⟨_, rfl⟩
          rw [hx] at hcell2
          have HS : Hid (l1 ++ l2.take (k + 1) = (l1 ++ l2.take k) ++ [x]) := by
            show _ = _
            rw [← hx, List.take_succ_eq_append_getElem hlt, ← List.append_assoc]
            simp [List.getD, hlt]
          have hlen : (l1 ++ l2.take k).length ≤ 300000 := by simp; omega
          clear hx hcell
          go_wp2_with (at_builtin; refine wpList_append_lies _ rfl _ _ 22 rfl w.heap.size 5 i0 (.int .u8 0) 1 1 Try.underlying22 HI.out.1 HI.out.2.1 HI.out.2.2.1 HI.out.2.2.2 rfl (by decide) u7 (l1 ++ l2.take k).length ((l1 ++ l2.take k).map (Value.int .u8)) rfl (HO.out.alloc _) ⟨wr.heap.size, 0, none⟩ 1 1 [.int .u8 x] rfl rfl (cell_one_new _ _ _) (by simp [Value.oneCell']) (by omega) (by unfold maxLen; omega) (by omega) (by simp; omega) (wr.heap.size + 1) (by simp) ?_; intro g cap w1 hown1 hgrow1 hat hglt)
          have hlx : (l1 ++ l2.take k).length = (l1.length + k) := by simp; omega
          have HO2 : Hid (Own w1 w.heap.size (.slice (some ⟨g, 0, none⟩) ((l1.length + k) + 1) cap) (l1 ++ l2.take (k + 1))) := by show Own _ _ _ _; have h := own_app (ds := [x]) rfl hown1; rw [hlx] at h; rw [HS.out]; exact h
          clear hlx
          have HB2 : Hid (Below w.heap.size w w1) := Below.grown (hbel.alloc hz _) hgrow1 (by simp; omega) (own_block HO.out)
          clear hown1 hgrow1
          go_roundw
          case rel => exact ⟨k + 1, by go_num, by omega, HO2.out, HB2.out⟩
          case measure => simp [intOf]; omega
        · obtain rfl : k = l2.length := by omega
          have O2b := hbel
          have O2 : Hid (Own wr w.heap.size u7 (l1 ++ l2)) := by show Own _ _ _ _; have := HO.out; rw [List.take_length] at this; exact this
          clear HO hbel hz hk hlt
          obtain ⟨W2, rfl⟩ : ∃ W, W = wr := ⟨_, rfl⟩
          go_wp2

          go_loopw [7, 10] (fun v7 v8 wr => ∃ k : Nat, v8 = .int .i64 k ∧ k ≤ l3.length ∧ Own wr w.heap.size v7 ((l1 ++ l2) ++ l3.take k) ∧ Below w.heap.size w wr) (fun _ v _ => l3.length - (intOf v).toNat)
          case atStart => exact ⟨0, rfl, Nat.zero_le _, by simpa using O2.out, O2b⟩
          case round =>
            obtain ⟨k, rfl, hk, hown, hbel⟩ := hrel
            have HO : Hid (Own wr w.heap.size u7 ((l1 ++ l2) ++ l3.take k)) := hown
            have hz := hbel.size
            clear hown
            by_cases hlt : k < l3.length
            · obtain ⟨b, off, rfl, hblt, hcell⟩ := at_byte H3.out hlt
              have hcell2 : wr.cell? ⟨b, off + k, none⟩ = some (.int .u8 (l3.getD k 0)) := by rw [← hcell]; exact hbel.cell (p := ⟨b, off + k, none⟩) hblt
              obtain ⟨x, hx⟩ : ∃ x, l3.getD k 0 = x := ⟨_, rfl⟩
              rw [hx] at hcell2
              have HS : Hid ((l1 ++ l2) ++ l3.take (k + 1) = ((l1 ++ l2) ++ l3.take k) ++ [x]) := by
                show _ = _
                rw [← hx, List.take_succ_eq_append_getElem hlt, ← List.append_assoc]
                simp [List.getD, hlt]
              have hlen : ((l1 ++ l2) ++ l3.take k).length ≤ 300000 := by simp; omega
              clear hx hcell
              go_wp2_with (at_builtin; refine wpList_append_lies _ rfl _ _ 22 rfl w.heap.size 5 i0 (.int .u8 0) 1 1 Try.underlying22 HI.out.1 HI.out.2.1 HI.out.2.2.1 HI.out.2.2.2 rfl (by decide) u7 ((l1 ++ l2) ++ l3.take k).length (((l1 ++ l2) ++ l3.take k).map (Value.int .u8)) rfl (HO.out.alloc _) ⟨wr.heap.size, 0, none⟩ 1 1 [.int .u8 x] rfl rfl (cell_one_new _ _ _) (by simp [Value.oneCell']) (by omega) (by unfold maxLen; omega) (by omega) (by simp; omega) (wr.heap.size + 1) (by simp) ?_; intro g cap w1 hown1 hgrow1 hat hglt)
              have hlx : ((l1 ++ l2) ++ l3.take k).length = (l1.length + (l2.length + k)) := by simp; omega
              have HO2 : Hid (Own w1 w.heap.size (.slice (some ⟨g, 0, none⟩) ((l1.length + (l2.length + k)) + 1) cap) ((l1 ++ l2) ++ l3.take (k + 1))) := by show Own _ _ _ _; have h := own_app (ds := [x]) rfl hown1; rw [hlx] at h; rw [HS.out]; exact h
              clear hlx
              have HB2 : Hid (Below w.heap.size w w1) := Below.grown (hbel.alloc hz _) hgrow1 (by simp; omega) (own_block HO.out)
              clear hown1 hgrow1
              go_roundw
              case rel => exact ⟨k + 1, by go_num, by omega, HO2.out, HB2.out⟩
              case measure => simp [intOf]; omega
            · obtain rfl : k = l3.length := by omega
              have O3b := hbel
              have O3 : Hid (Own wr w.heap.size u7 ((l1 ++ l2) ++ l3)) := by show Own _ _ _ _; have := HO.out; rw [List.take_length] at this; exact this
              clear HO hbel hz hk hlt
              obtain ⟨W3, rfl⟩ : ∃ W, W = wr := ⟨_, rfl⟩
              go_wp2
              go_ret
              exact ⟨_, rfl, O3.out, O3b⟩
end Go.Proofs.Qxb6003628a.Walker

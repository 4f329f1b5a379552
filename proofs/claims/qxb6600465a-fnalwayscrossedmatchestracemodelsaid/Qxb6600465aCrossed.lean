import Derived.Test.Qxb6600465aCross
namespace Go.Proofs.Qxb6600465a.Ere
open Go.RowKit

set_option maxHeartbeats 4000000 in
/-- A group: its one sub's answer. -/
theorem cross_4 (g h gi c : Nat) (w : World) (hglt : g < w.heap.size) (hhlt : h < w.heap.size) (h0 : w.cell? ⟨g, 0, none⟩ = some (.int .i64 4)) (h6 : w.cell? ⟨g, 6, none⟩ = some (.slice (some ⟨h, 0, none⟩) 1 c)) (hs : w.cell? ⟨h, 0, none⟩ = some (.pointer (some ⟨gi, 0, none⟩))) (x y : Bool)
    (hc : ∀ w1, Below w.heap.size w w1 → Calls Try.prog 12 #[.pointer (some ⟨gi, 0, none⟩)] w1 fun e w' => Pairs x y w1 w' e) :
    Calls Try.prog 12 #[.pointer (some ⟨g, 0, none⟩)] w fun e w' => Pairs x y w w' e := by
  have HC : Hid (∀ w1, Below w.heap.size w w1 → Calls Try.prog 12 #[.pointer (some ⟨gi, 0, none⟩)] w1 fun e w' => Pairs x y w1 w' e) := hc
  clear hc
  go_enter Try.func12, Try.ntmps12
  go_wp2_with (go_at_call 12; refine (HC.out _ ((Below.refl _ _).alloc (Nat.le_refl _) _)).mono ?_; rintro e w1 ⟨rfl, hb⟩; have h2 := two_below (two_new w false false 37) hb (by simp); have HB : Hid (Below (w.alloc (.cells #[.bool false, .bool false] 37)).heap.size (w.alloc (.cells #[.bool false, .bool false] 37)) w1) := hb; have HT : Hid (Two w1 w.heap.size false false) := h2; clear hb; obtain ⟨c0, c1, f0, f1⟩ := h2)
  have HT' := two_set HT.out x y
  refine bodyPost_ret (v := .agg #[.bool x, .bool y]) (by simp [results, Try.results12, go_sem, HT'.c0, HT'.c1]) rfl ⟨rfl, ?_⟩
  have := HB.out.mono (B' := w.heap.size) (by simp)
  exact (((Below.refl _ _).alloc (Nat.le_refl _) _).trans this).setCell (Nat.le_refl _) _ |>.setCell (Nat.le_refl _) _

set_option maxHeartbeats 4000000 in
/-- A repeat from one on: its one sub's answer. -/
theorem cross_7 (g h gi c mn : Nat) (w : World) (hglt : g < w.heap.size) (hhlt : h < w.heap.size) (h0 : w.cell? ⟨g, 0, none⟩ = some (.int .i64 7)) (h4 : w.cell? ⟨g, 4, none⟩ = some (.int .i64 (mn : Int))) (hmn : (mn : Int) ≠ 0) (h6 : w.cell? ⟨g, 6, none⟩ = some (.slice (some ⟨h, 0, none⟩) 1 c)) (hs : w.cell? ⟨h, 0, none⟩ = some (.pointer (some ⟨gi, 0, none⟩))) (x y : Bool)
    (hc : ∀ w1, Below w.heap.size w w1 → Calls Try.prog 12 #[.pointer (some ⟨gi, 0, none⟩)] w1 fun e w' => Pairs x y w1 w' e) :
    Calls Try.prog 12 #[.pointer (some ⟨g, 0, none⟩)] w fun e w' => Pairs x y w w' e := by
  have HC : Hid (∀ w1, Below w.heap.size w w1 → Calls Try.prog 12 #[.pointer (some ⟨gi, 0, none⟩)] w1 fun e w' => Pairs x y w1 w' e) := hc
  clear hc
  go_enter Try.func12, Try.ntmps12
  go_wp2_with (go_at_call 12; refine (HC.out _ ((Below.refl _ _).alloc (Nat.le_refl _) _)).mono ?_; rintro e w1 ⟨rfl, hb⟩; have h2 := two_below (two_new w false false 37) hb (by simp); have HB : Hid (Below (w.alloc (.cells #[.bool false, .bool false] 37)).heap.size (w.alloc (.cells #[.bool false, .bool false] 37)) w1) := hb; have HT : Hid (Two w1 w.heap.size false false) := h2; clear hb; obtain ⟨c0, c1, f0, f1⟩ := h2)
  have HT' := two_set HT.out x y
  refine bodyPost_ret (v := .agg #[.bool x, .bool y]) (by simp [results, Try.results12, go_sem, HT'.c0, HT'.c1]) rfl ⟨rfl, ?_⟩
  have := HB.out.mono (B' := w.heap.size) (by simp)
  exact (((Below.refl _ _).alloc (Nat.le_refl _) _).trans this).setCell (Nat.le_refl _) _ |>.setCell (Nat.le_refl _) _
set_option maxHeartbeats 4000000 in
/-- A repeat from nought on. -/
theorem cross_70 (g : Nat) (w : World) (hglt : g < w.heap.size) (h0 : w.cell? ⟨g, 0, none⟩ = some (.int .i64 7)) (h4 : w.cell? ⟨g, 4, none⟩ = some (.int .i64 0)) :
    Calls Try.prog 12 #[.pointer (some ⟨g, 0, none⟩)] w fun e w' => Pairs false false w w' e := by
  go_enter Try.func12, Try.ntmps12
  go_wp2_with fail
  refine bodyPost_ret (v := .agg #[.bool _, .bool _]) (by simp [results, Try.results12, go_sem]) rfl ⟨rfl, ?_⟩
  repeat (first | exact Below.refl _ _ | apply Below.drew | (refine Below.setCell ?_ (by simp) _) | (refine Below.alloc ?_ (by simp; try omega) _))

/-- What the loop over the subs holds. -/
def Round5 (w : World) (fb fe : Nat → Bool) (k : Nat) (wr : World) : Prop :=
  Below w.heap.size w wr ∧ w.heap.size + 2 ≤ wr.heap.size ∧ Two wr w.heap.size false false ∧ Two wr (w.heap.size + 1) (orB fb k) (orB fe k)
theorem step5 {w wr w1 w2 : World} {fb fe : Nat → Bool} {k : Nat} (h : Round5 w fb fe k wr) (h1 : Below wr.heap.size wr w1) (h2 : Below w1.heap.size w1 w2) :
    Round5 w fb fe (k + 1) ((w2.setCell ⟨w.heap.size + 1, 0, none⟩ (.bool (orB fb (k + 1)))).setCell ⟨w.heap.size + 1, 1, none⟩ (.bool (orB fe (k + 1)))) := by
  obtain ⟨q1, q2, q3, q4⟩ := h
  have hb : Below wr.heap.size wr w2 := h1.trans (h2.mono h1.size)
  have hz := hb.size
  refine ⟨((q1.trans (hb.mono q1.size)).setCell (Nat.le_succ _) _).setCell (Nat.le_succ _) _, ?_, ?_, two_set (two_below q4 hb (by omega)) _ _⟩
  · simp [World.setCell]; omega
  · have r := two_below q3 hb (by omega)
    have n0 : ∀ i j, (⟨w.heap.size + 1, i, none⟩ : Addr) ≠ ⟨w.heap.size, j, none⟩ := by intro i j e; have := congrArg Addr.block e; simp at this
    exact ⟨by rw [World.cell?_setCell_other _ _ _ _ (n0 _ _), World.cell?_setCell_other _ _ _ _ (n0 _ _)]; exact r.c0, by rw [World.cell?_setCell_other _ _ _ _ (n0 _ _), World.cell?_setCell_other _ _ _ _ (n0 _ _)]; exact r.c1, by rw [World.frozen?_setCell, World.frozen?_setCell]; exact r.f0, by rw [World.frozen?_setCell, World.frozen?_setCell]; exact r.f1⟩
set_option maxHeartbeats 4000000 in
theorem cross_5 (g m c : Nat) (hm : m ≤ 3) (a : Option Addr) (w : World) (hglt : g < w.heap.size) (h0 : w.cell? ⟨g, 0, none⟩ = some (.int .i64 5)) (h6 : w.cell? ⟨g, 6, none⟩ = some (.slice a m c)) (fb fe : Nat → Bool)
    (hs : ∀ i, i < m → ∃ h gi, a = some ⟨h, 0, none⟩ ∧ h < w.heap.size ∧ w.cell? ⟨h, i, none⟩ = some (.pointer (some ⟨gi, 0, none⟩)) ∧ ∀ w1, Below w.heap.size w w1 → Calls Try.prog 12 #[.pointer (some ⟨gi, 0, none⟩)] w1 fun e w' => Pairs (fb i) (fe i) w1 w' e) :
    Calls Try.prog 12 #[.pointer (some ⟨g, 0, none⟩)] w fun e w' => Pairs (orB fb m) (orB fe m) w w' e := by
  have HS : Hid (∀ i, i < m → ∃ h gi, a = some ⟨h, 0, none⟩ ∧ h < w.heap.size ∧ w.cell? ⟨h, i, none⟩ = some (.pointer (some ⟨gi, 0, none⟩)) ∧ ∀ w1, Below w.heap.size w w1 → Calls Try.prog 12 #[.pointer (some ⟨gi, 0, none⟩)] w1 fun e w' => Pairs (fb i) (fe i) w1 w' e) := hs
  clear hs
  go_enter Try.func12, Try.ntmps12
  go_wp2_with fail
  go_loopw [5, 35] (fun _ vi wr => ∃ k : Nat, k ≤ m ∧ vi = .int .i64 k ∧ Round5 w fb fe k wr) (fun _ v _ => m - (intOf v).toNat)
  case atStart => exact ⟨0, Nat.zero_le _, rfl, ⟨by repeat (first | exact Below.refl _ _ | apply Below.drew | (refine Below.setCell ?_ (by simp) _) | (refine Below.alloc ?_ (by simp) _)), by simp, ⟨by simp [go_sem], by simp [go_sem], by simp [go_sem], by simp [go_sem]⟩, ⟨by simp [go_sem, orB], by simp [go_sem, orB], by simp [go_sem], by simp [go_sem]⟩⟩⟩
  case round =>
    obtain ⟨k, hk, rfl, hr⟩ := hrel
    have HR : Hid (Round5 w fb fe k wr) := hr
    obtain ⟨q1, q2, q3, q4⟩ := hr
    have HQ : Hid (Below w.heap.size w wr) := q1
    obtain ⟨d0, d1, e0, e1⟩ := q3
    obtain ⟨c0, c1, f0, f1⟩ := q4
    by_cases hlt : k < m
    · obtain ⟨h, gi, rfl, hh, hcell0, hcalls⟩ := HS.out k hlt
      have hcell : wr.cell? ⟨h, k, none⟩ = some (.pointer (some ⟨gi, 0, none⟩)) := by rw [q1.cell (p := ⟨h, k, none⟩) hh]; exact hcell0
      have HC : Hid (∀ w1, Below wr.heap.size wr w1 → Calls Try.prog 12 #[.pointer (some ⟨gi, 0, none⟩)] w1 fun e w' => Pairs (fb k) (fe k) w1 w' e) := fun w1 h1 => hcalls w1 (HQ.out.trans (h1.mono HQ.out.size))
      clear hcell0 hcalls q1
      go_wp2_with fail
      go_region_with (first | (go_at_call 12; refine (HC.out _ (by first | exact (Below.refl _ _).drew | exact (Below.refl _ _).drew.drew | exact Below.refl _ _)).mono ?_; rintro e w1 ⟨rfl, hb1⟩; have HW : Hid (Below wr.heap.size wr w1) := Below.trans (by first | exact (Below.refl _ _).drew | exact (Below.refl _ _).drew.drew | exact Below.refl _ _) hb1; have t1 := two_below HR.out.2.2.2 HW.out (by omega); have T1 : Hid (Two w1 (w.heap.size + 1) (orB fb k) (orB fe k)) := t1; have hz1 := HW.out.size; clear hb1; obtain ⟨a0, a1, b0, b1⟩ := t1) | (go_at_call 15; refine (or_any _ _ _ _ _).mono ?_; rintro e w2 ⟨rfl, hb2⟩; have HB2 : Hid (Below w1.heap.size w1 w2) := hb2; have t2 := two_below T1.out hb2 (by omega); have hz2 := hb2.size; clear hb2; obtain ⟨m0, m1, n0, n1⟩ := t2))
      all_goals
        go_wp2_with fail
        go_roundw
        case rel => exact ⟨k + 1, by omega, by go_num, step5 HR.out HW.out HB2.out⟩
        case measure => simp [intOf]; omega
    · obtain rfl : k = m := by omega
      clear q1
      go_wp2_with fail
      have HT' := two_set HR.out.2.2.1 (orB fb k) (orB fe k)
      refine bodyPost_ret (v := .agg #[.bool (orB fb k), .bool (orB fe k)]) (by simp [results, Try.results12, go_sem, HT'.c0, HT'.c1]) rfl ⟨rfl, ?_⟩
      exact (HQ.out.setCell (Nat.le_refl _) _).setCell (Nat.le_refl _) _

/-- What the loop over the subs holds. -/
def Round6 (w : World) (fb fe : Nat → Bool) (k : Nat) (wr : World) : Prop :=
  Below w.heap.size w wr ∧ w.heap.size + 2 ≤ wr.heap.size ∧ Two wr w.heap.size false false ∧ Two wr (w.heap.size + 1) (andB fb k) (andB fe k)
theorem step6 {w wr w1 w2 : World} {fb fe : Nat → Bool} {k : Nat} (h : Round6 w fb fe k wr) (h1 : Below wr.heap.size wr w1) (h2 : Below w1.heap.size w1 w2) :
    Round6 w fb fe (k + 1) ((w2.setCell ⟨w.heap.size + 1, 0, none⟩ (.bool (andB fb (k + 1)))).setCell ⟨w.heap.size + 1, 1, none⟩ (.bool (andB fe (k + 1)))) := by
  obtain ⟨q1, q2, q3, q4⟩ := h
  have hb : Below wr.heap.size wr w2 := h1.trans (h2.mono h1.size)
  have hz := hb.size
  refine ⟨((q1.trans (hb.mono q1.size)).setCell (Nat.le_succ _) _).setCell (Nat.le_succ _) _, ?_, ?_, two_set (two_below q4 hb (by omega)) _ _⟩
  · simp [World.setCell]; omega
  · have r := two_below q3 hb (by omega)
    have n0 : ∀ i j, (⟨w.heap.size + 1, i, none⟩ : Addr) ≠ ⟨w.heap.size, j, none⟩ := by intro i j e; have := congrArg Addr.block e; simp at this
    exact ⟨by rw [World.cell?_setCell_other _ _ _ _ (n0 _ _), World.cell?_setCell_other _ _ _ _ (n0 _ _)]; exact r.c0, by rw [World.cell?_setCell_other _ _ _ _ (n0 _ _), World.cell?_setCell_other _ _ _ _ (n0 _ _)]; exact r.c1, by rw [World.frozen?_setCell, World.frozen?_setCell]; exact r.f0, by rw [World.frozen?_setCell, World.frozen?_setCell]; exact r.f1⟩
set_option maxHeartbeats 4000000 in
theorem cross_6 (g m c : Nat) (hm : m ≤ 3) (a : Option Addr) (w : World) (hglt : g < w.heap.size) (h0 : w.cell? ⟨g, 0, none⟩ = some (.int .i64 6)) (h6 : w.cell? ⟨g, 6, none⟩ = some (.slice a m c)) (fb fe : Nat → Bool)
    (hs : ∀ i, i < m → ∃ h gi, a = some ⟨h, 0, none⟩ ∧ h < w.heap.size ∧ w.cell? ⟨h, i, none⟩ = some (.pointer (some ⟨gi, 0, none⟩)) ∧ ∀ w1, Below w.heap.size w w1 → Calls Try.prog 12 #[.pointer (some ⟨gi, 0, none⟩)] w1 fun e w' => Pairs (fb i) (fe i) w1 w' e) :
    Calls Try.prog 12 #[.pointer (some ⟨g, 0, none⟩)] w fun e w' => Pairs (andB fb m) (andB fe m) w w' e := by
  have HS : Hid (∀ i, i < m → ∃ h gi, a = some ⟨h, 0, none⟩ ∧ h < w.heap.size ∧ w.cell? ⟨h, i, none⟩ = some (.pointer (some ⟨gi, 0, none⟩)) ∧ ∀ w1, Below w.heap.size w w1 → Calls Try.prog 12 #[.pointer (some ⟨gi, 0, none⟩)] w1 fun e w' => Pairs (fb i) (fe i) w1 w' e) := hs
  clear hs
  go_enter Try.func12, Try.ntmps12
  go_wp2_with fail
  go_loopw [8, 53] (fun _ vi wr => ∃ k : Nat, k ≤ m ∧ vi = .int .i64 k ∧ Round6 w fb fe k wr) (fun _ v _ => m - (intOf v).toNat)
  case atStart => exact ⟨0, Nat.zero_le _, rfl, ⟨by repeat (first | exact Below.refl _ _ | apply Below.drew | (refine Below.setCell ?_ (by simp) _) | (refine Below.alloc ?_ (by simp) _)), by simp, ⟨by simp [go_sem], by simp [go_sem], by simp [go_sem], by simp [go_sem]⟩, ⟨by simp [go_sem, andB], by simp [go_sem, andB], by simp [go_sem], by simp [go_sem]⟩⟩⟩
  case round =>
    obtain ⟨k, hk, rfl, hr⟩ := hrel
    have HR : Hid (Round6 w fb fe k wr) := hr
    obtain ⟨q1, q2, q3, q4⟩ := hr
    have HQ : Hid (Below w.heap.size w wr) := q1
    obtain ⟨d0, d1, e0, e1⟩ := q3
    obtain ⟨c0, c1, f0, f1⟩ := q4
    by_cases hlt : k < m
    · obtain ⟨h, gi, rfl, hh, hcell0, hcalls⟩ := HS.out k hlt
      have hcell : wr.cell? ⟨h, k, none⟩ = some (.pointer (some ⟨gi, 0, none⟩)) := by rw [q1.cell (p := ⟨h, k, none⟩) hh]; exact hcell0
      have HC : Hid (∀ w1, Below wr.heap.size wr w1 → Calls Try.prog 12 #[.pointer (some ⟨gi, 0, none⟩)] w1 fun e w' => Pairs (fb k) (fe k) w1 w' e) := fun w1 h1 => hcalls w1 (HQ.out.trans (h1.mono HQ.out.size))
      clear hcell0 hcalls q1
      go_wp2_with fail
      go_region_with (first | (go_at_call 12; refine (HC.out _ (by first | exact (Below.refl _ _).drew | exact (Below.refl _ _).drew.drew | exact Below.refl _ _)).mono ?_; rintro e w1 ⟨rfl, hb1⟩; have HW : Hid (Below wr.heap.size wr w1) := Below.trans (by first | exact (Below.refl _ _).drew | exact (Below.refl _ _).drew.drew | exact Below.refl _ _) hb1; have t1 := two_below HR.out.2.2.2 HW.out (by omega); have T1 : Hid (Two w1 (w.heap.size + 1) (andB fb k) (andB fe k)) := t1; have hz1 := HW.out.size; clear hb1; obtain ⟨a0, a1, b0, b1⟩ := t1) | (go_at_call 16; refine (and_any _ _ _ _ _).mono ?_; rintro e w2 ⟨rfl, hb2⟩; have HB2 : Hid (Below w1.heap.size w1 w2) := hb2; have t2 := two_below T1.out hb2 (by omega); have hz2 := hb2.size; clear hb2; obtain ⟨m0, m1, n0, n1⟩ := t2))
      all_goals
        go_wp2_with fail
        go_roundw
        case rel => exact ⟨k + 1, by omega, by go_num, step6 HR.out HW.out HB2.out⟩
        case measure => simp [intOf]; omega
    · obtain rfl : k = m := by omega
      clear q1
      go_wp2_with fail
      have HT' := two_set HR.out.2.2.1 (andB fb k) (andB fe k)
      refine bodyPost_ret (v := .agg #[.bool (andB fb k), .bool (andB fe k)]) (by simp [results, Try.results12, go_sem, HT'.c0, HT'.c1]) rfl ⟨rfl, ?_⟩
      exact (HQ.out.setCell (Nat.le_refl _) _).setCell (Nat.le_refl _) _
end Go.Proofs.Qxb6600465a.Ere

import Derived.Test.Qxb6605415aRows
import Derived.Test.Qxb6605415aNumAt
import Derived.WalkKit
import Derived.WalkSpells
import Derived.WalkLawsBesides
import Derived.Outline
import Derived.Deep.QuietTactic
import Derived.BigQuiet
import Derived.RowKit3
import Derived.Below
import Derived.Deep.DeepCutAuto
import Derived.Deep.CutBlock
namespace Go.Proofs.Qxb6605415a.Scan
open Go.RowKit Go.Proofs.Qxb6605415a.Num

/-- The bytes d lie in block b from offset off on. -/
def Bytes (w : World) (b off : Nat) (d : List Int) : Prop := ∀ i, i < d.length → w.cell? ⟨b, off + i, none⟩ = some (.int .u8 (d.getD i 0))
theorem ret_int {k : IntKind} {a b : Int} (h : a = b) : Ending.returned (.int k a) = .returned (.int k b) := by rw [h]

theorem digitsEnd_any (b off c : Nat) (d : List Int) (hn : d.length ≤ 1000000) (i : Nat) (w : World) (hb : Bytes w b off d) :
    Calls Try.prog 19 #[.slice (some ⟨b, off, none⟩) d.length c, .int .i64 i] w fun e w' => e = .returned (.int .i64 (dEnd d i)) ∧ w' = w := by
  go_enter Try.func19, Try.ntmps19
  go_wp2
  go_loop [1] (fun v => ∃ k : Nat, v = .int .i64 k ∧ (k ≤ i ∨ k ≤ d.length) ∧ Hid (dEnd d i = dEnd d k)) (fun v => d.length - (intOf v).toNat)
  case atStart => exact ⟨i, rfl, .inl (Nat.le_refl _), rfl⟩
  case round =>
    obtain ⟨k, rfl, hk, HK⟩ := hrel
    by_cases hlt : k < d.length
    · have hcell := hb k hlt
      obtain ⟨x, hx⟩ : ∃ x, d.getD k 0 = x := ⟨_, rfl⟩
      rw [hx] at hcell
      have HX : Hid (d.getD k 0 = x) := hx
      clear hx hb
      by_cases h1 : 48 ≤ x
      · by_cases h2 : x ≤ 57
        · go_wp2
          go_round
          case rel => exact ⟨k + 1, by go_num, by omega, (HK.out).trans (dEnd_hit (by simp only [digAt, dig, HX.out]; simp; omega))⟩
          case measure => simp [intOf]; omega
        · go_wp2
          go_ret
          exact ⟨ret_int (by rw [HK.out, dEnd_miss (by simp only [digAt, dig, HX.out]; simp; omega)]), rfl⟩
      · go_wp2
        go_ret
        exact ⟨ret_int (by rw [HK.out, dEnd_miss (by simp only [digAt, dig, HX.out]; simp; omega)]), rfl⟩
    · go_wp2
      go_ret
      exact ⟨ret_int (by rw [HK.out, dEnd_miss (by simp only [digAt]; simp; omega)]), rfl⟩

set_option maxHeartbeats 1000000 in
theorem number_any (g b off c p : Nat) (d : List Int) (hn : d.length ≤ 1000000) (hp : p ≤ 9223372036854775807) (w : World) (hb : Bytes w b off d)
    (h0 : w.cell? ⟨g, 0, none⟩ = some (.slice (some ⟨b, off, none⟩) d.length c)) (h1 : w.cell? ⟨g, 1, none⟩ = some (.int .i64 p)) (hf : w.frozen? ⟨g, 1, none⟩ = false) :
    Calls Try.prog 15 #[.pointer (some ⟨g, 0, none⟩)] w fun e w' =>
      (xNum (d.drop p) = none ∧ e = .returned (.bool false) ∧ ∃ q, w' = w.drewN q) ∨ (∃ k, xNum (d.drop p) = some k ∧ e = .returned (.bool true) ∧ ∃ q, w' = (w.drewN q).setCell ⟨g, 1, none⟩ (.int .i64 ((p + k : Nat) : Int))) := by
  go_enter Try.func15, Try.ntmps15
  go_wp2
  go_quiet (fail)
  have hb1 : Bytes (w.drewN nq) b off d := fun i hi => by simpa using hb i hi
  have h11 : (w.drewN nq).cell? ⟨g, 1, none⟩ = some (.int .i64 p) := by simpa using h1
  have hf1 : (w.drewN nq).frozen? ⟨g, 1, none⟩ = false := by simpa using hf
  obtain ⟨W1, hW⟩ : ∃ W1, w.drewN nq = W1 := ⟨_, rfl⟩
  rw [hW] at hb1 h11 hf1
  rw [hW]
  have HW : Hid (w.drewN nq = W1) := hW
  have HB : Hid (Bytes W1 b off d) := hb1
  clear hb h0 h1 hf hW hb1
  -- the minus
  go_upto_region 2 with fail
  go_cut [24] from 6 to 23 (fun s wx => s = .bool (isAt d p 45) ∧ W1 = wx)
  case first =>
    by_cases hlt : p < d.length
    · have hcell := HB.out p hlt
      obtain ⟨x, hx⟩ : ∃ x, d.getD p 0 = x := ⟨_, rfl⟩
      rw [hx] at hcell
      have HX : Hid (d.getD p 0 = x) := hx
      clear hx
      go_wp2
      go_meet
      exact ⟨by simp only [isAt, HX.out, hlt]; rfl, rfl⟩
    · go_wp2
      go_meet
      exact ⟨by simp [isAt, hlt], rfl⟩
  obtain ⟨rfl, rfl⟩ := hcut
  go_upto_if 24 with fail
  go_cut [4] from 24 to 26 (fun v wx => ∃ i : Nat, v = .int .i64 i ∧ At1 d p i ∧ (i ≤ p ∨ i ≤ d.length) ∧ W1 = wx)
  case first =>
    cases hm : isAt d p 45
    · go_wp2
      go_meet
      exact ⟨p, rfl, at1_plain hm, .inl (Nat.le_refl _), rfl⟩
    · have hlt : p < d.length := by simp only [isAt, Bool.and_eq_true, decide_eq_true_eq] at hm; exact hm.1
      go_wp2
      go_meet
      exact ⟨p + 1, by go_num, at1_minus hm, .inr (by omega), rfl⟩
  obtain ⟨i, rfl, s1, hi, rfl⟩ := hcut
  -- the whole part
  go_upto_block 0 with fail
  go_cut [4] from 27 to 62 (fun v wx => ∃ j : Nat, v = .int .i64 j ∧ At2 d p j ∧ j ≤ d.length ∧ W1 = wx)
  case first =>
    by_cases hlt : i < d.length
    · have hcell := HB.out i hlt
      obtain ⟨x, hx⟩ : ∃ x, d.getD i 0 = x := ⟨_, rfl⟩
      rw [hx] at hcell
      have HX : Hid (d.getD i 0 = x) := hx
      clear hx
      by_cases e1 : x = 48
      · subst e1
        go_wp2
        go_meet
        exact ⟨i + 1, by go_num, at2_zero s1 (by simp only [isAt, HX.out, hlt]; rfl), by omega, rfl⟩
      have n1 : isAt d i 48 = false := by simp only [isAt, HX.out]; simp [e1]
      by_cases e2 : 49 ≤ x ∧ x ≤ 57
      · obtain ⟨e3, e4⟩ := e2
        have hj := dEnd_le d i (by omega)
        have s2 := at2_dig s1 n1 (by simp only [digAt, dig, HX.out, hlt]; simp; omega)
        clear n1
        go_wp2_with (go_at_call 19; refine (digitsEnd_any b off c d hn i _ HB.out).mono ?_; rintro e w' ⟨rfl, rfl⟩)
        go_meet
        exact ⟨dEnd d i, rfl, s2, hj.2, rfl⟩
      · have hz := at1_none s1 n1 (by simp only [digAt, dig, HX.out]; simp; omega)
        have HZ : Hid (xNum (d.drop p) = none) := hz
        clear hz n1
        by_cases e3 : 49 ≤ x
        · have e4 : ¬ x ≤ 57 := fun h => e2 ⟨e3, h⟩
          clear e2
          go_wp2
          go_ret
          exact .inl ⟨HZ.out, rfl, nq, HW.out.symm⟩
        · clear e2
          go_wp2
          go_ret
          exact .inl ⟨HZ.out, rfl, nq, HW.out.symm⟩
    · have HZ : Hid (xNum (d.drop p) = none) := at1_none s1 (by simp [isAt, hlt]) (by simp [digAt, hlt])
      go_wp2
      go_ret
      exact .inl ⟨HZ.out, rfl, nq, HW.out.symm⟩
  clear s1 hi
  obtain ⟨j, rfl, s2, hj, rfl⟩ := hcut
  -- the fraction
  go_upto_region 9 with fail
  go_cut [73] from 63 to 72 (fun s wx => s = .bool (isAt d j 46) ∧ W1 = wx)
  case first =>
    by_cases hlt : j < d.length
    · have hcell := HB.out j hlt
      obtain ⟨x, hx⟩ : ∃ x, d.getD j 0 = x := ⟨_, rfl⟩
      rw [hx] at hcell
      have HX : Hid (d.getD j 0 = x) := hx
      clear hx
      go_wp2
      go_meet
      exact ⟨by simp only [isAt, HX.out, hlt]; rfl, rfl⟩
    · go_wp2
      go_meet
      exact ⟨by simp [isAt, hlt], rfl⟩
  obtain ⟨rfl, rfl⟩ := hcut
  go_upto_if 73 with fail
  go_cut [4] from 73 to 83 (fun v wx => ∃ k : Nat, v = .int .i64 k ∧ At3 d p k ∧ k ≤ d.length ∧ W1 = wx)
  case first =>
    cases hm : isAt d j 46
    · have s3 := at3_plain s2 hm
      go_wp2
      go_meet
      exact ⟨j, rfl, s3, hj, rfl⟩
    · have hm' := hm
      simp only [isAt, Bool.and_eq_true, decide_eq_true_eq] at hm'
      obtain ⟨hlt, he⟩ := hm'
      have hk := dEnd_le d (j + 1) (by omega)
      by_cases h0 : dEnd d (j + 1) = j + 1
      · have HZ : Hid (xNum (d.drop p) = none) := at2_none s2 hm h0
        have H0 : Hid (dEnd d (j + 1) = j + 1) := h0
        have hcell := HB.out j hlt
        rw [beq_iff_eq.1 he] at hcell
        clear h0 he hm
        go_wp2_with fail
        rw [show ((j : Int) + 1) = ((j + 1 : Nat) : Int) from by omega]
        refine (digitsEnd_any b off c d hn (j + 1) _ HB.out).mono ?_
        rintro e w' ⟨rfl, rfl⟩
        rw [H0.out]
        go_wp2
        go_ret
        exact .inl ⟨HZ.out, rfl, nq, HW.out.symm⟩
      · have s3 := at3_frac s2 hm (by omega)
        have hl := dEnd_last (d := d) (i := j + 1) (by omega)
        have hcell := HB.out (dEnd d (j + 1) - 1) (by omega)
        obtain ⟨x, hx⟩ : ∃ x, d.getD (dEnd d (j + 1) - 1) 0 = x := ⟨_, rfl⟩
        rw [hx] at hcell hl
        have hx1 : 48 ≤ x := by simp [dig] at hl; exact hl.1
        obtain ⟨k, hk2⟩ : ∃ k, dEnd d (j + 1) = k + 1 := ⟨dEnd d (j + 1) - 1, by omega⟩
        have H0 : Hid (dEnd d (j + 1) = k + 1) := hk2
        rw [hk2] at hcell s3 hk
        rw [show k + 1 - 1 = k from by omega] at hcell
        clear hx hl he hm h0 hk2
        go_wp2_with fail
        rw [show ((j : Int) + 1) = ((j + 1 : Nat) : Int) from by omega]
        refine (digitsEnd_any b off c d hn (j + 1) _ HB.out).mono ?_
        rintro e w' ⟨rfl, rfl⟩
        rw [H0.out]
        go_wp2
        go_meet
        exact ⟨k + 1, rfl, s3, hk.2, rfl⟩
  clear s2 hj
  obtain ⟨k, rfl, s3, hk, rfl⟩ := hcut
  -- the exponent
  go_upto_region 13 with fail
  go_cut [101] from 84 to 100 (fun s wx => s = .bool (expoAt d k) ∧ W1 = wx)
  case first =>
    by_cases hlt : k < d.length
    · have hcell := HB.out k hlt
      obtain ⟨x, hx⟩ : ∃ x, d.getD k 0 = x := ⟨_, rfl⟩
      rw [hx] at hcell
      have HX : Hid (d.getD k 0 = x) := hx
      clear hx
      by_cases e1 : x = 101
      · subst e1
        go_wp2
        go_meet
        exact ⟨by simp only [expoAt, expo, HX.out, hlt]; rfl, rfl⟩
      · have n1 : (x == 101) = false := by simpa using e1
        go_wp2
        go_meet
        exact ⟨by simp only [expoAt, expo, HX.out, hlt, n1]; rfl, rfl⟩
    · go_wp2
      go_meet
      exact ⟨by simp [expoAt, hlt], rfl⟩
  obtain ⟨rfl, rfl⟩ := hcut
  go_upto_if 101 with fail
  go_cut [4] from 101 to 130 (fun v wx => ∃ m : Nat, v = .int .i64 m ∧ p ≤ m ∧ xNum (d.drop p) = some (m - p) ∧ W1 = wx)
  case first =>
    cases hm : expoAt d k
    · have s4 := at4_plain s3 hm
      have hpk := s3.1
      have H4 : Hid (xNum (d.drop p) = some (k - p)) := s4
      clear s4
      go_wp2
      go_meet
      exact ⟨k, rfl, hpk, H4.out, rfl⟩
    · have hlt : k < d.length := by simp only [expoAt, Bool.and_eq_true, decide_eq_true_eq] at hm; exact hm.1
      by_cases hlt2 : k + 1 < d.length
      · have hcell := HB.out (k + 1) hlt2
        obtain ⟨x, hx⟩ : ∃ x, d.getD (k + 1) 0 = x := ⟨_, rfl⟩
        rw [hx] at hcell
        have HX : Hid (d.getD (k + 1) 0 = x) := hx
        clear hx
        by_cases e1 : x = 43
        · subst e1
          have hf : expFrom d (k + 1) = k + 2 := by unfold expFrom; rw [if_pos (by simp only [sgnAt, sgn, HX.out, hlt2]; rfl)]
          have hq := dEnd_le d (k + 2) (by omega)
          by_cases h0 : dEnd d (k + 2) = k + 2
          · have HZ : Hid (xNum (d.drop p) = none) := at3_none s3 hm (by rw [hf]; exact h0)
            have H0 : Hid (dEnd d (k + 2) = k + 2) := h0
            clear h0 hf hm s3
            go_wp2_with fail
            rw [show ((k : Int) + 1 + 1) = ((k + 2 : Nat) : Int) from by omega]
            refine (digitsEnd_any b off c d hn (k + 2) _ HB.out).mono ?_
            rintro e w' ⟨rfl, rfl⟩
            rw [H0.out]
            go_wp2
            go_ret
            exact .inl ⟨HZ.out, rfl, nq, HW.out.symm⟩
          · have H4 : Hid (xNum (d.drop p) = some (dEnd d (k + 2) - p)) := by have := at4_exp s3 hm (by rw [hf]; omega); rw [hf] at this; exact this
            have hpk := s3.1
            have hgt : k + 2 < dEnd d (k + 2) := by omega
            clear h0 hf hm s3
            go_wp2_with fail
            rw [show ((k : Int) + 1 + 1) = ((k + 2 : Nat) : Int) from by omega]
            refine (digitsEnd_any b off c d hn (k + 2) _ HB.out).mono ?_
            rintro e w' ⟨rfl, rfl⟩
            obtain ⟨m, hm2⟩ : ∃ m, dEnd d (k + 2) = m := ⟨_, rfl⟩
            rw [hm2] at H4 hgt
            rw [hm2]
            clear hm2 hq
            go_wp2
            go_meet
            exact ⟨m, rfl, by omega, H4.out, rfl⟩
        by_cases e2 : x = 45
        · subst e2
          have hf : expFrom d (k + 1) = k + 2 := by unfold expFrom; rw [if_pos (by simp only [sgnAt, sgn, HX.out, hlt2]; rfl)]
          have hq := dEnd_le d (k + 2) (by omega)
          by_cases h0 : dEnd d (k + 2) = k + 2
          · have HZ : Hid (xNum (d.drop p) = none) := at3_none s3 hm (by rw [hf]; exact h0)
            have H0 : Hid (dEnd d (k + 2) = k + 2) := h0
            clear h0 hf hm s3
            go_wp2_with fail
            rw [show ((k : Int) + 1 + 1) = ((k + 2 : Nat) : Int) from by omega]
            refine (digitsEnd_any b off c d hn (k + 2) _ HB.out).mono ?_
            rintro e w' ⟨rfl, rfl⟩
            rw [H0.out]
            go_wp2
            go_ret
            exact .inl ⟨HZ.out, rfl, nq, HW.out.symm⟩
          · have H4 : Hid (xNum (d.drop p) = some (dEnd d (k + 2) - p)) := by have := at4_exp s3 hm (by rw [hf]; omega); rw [hf] at this; exact this
            have hpk := s3.1
            have hgt : k + 2 < dEnd d (k + 2) := by omega
            clear h0 hf hm s3
            go_wp2_with fail
            rw [show ((k : Int) + 1 + 1) = ((k + 2 : Nat) : Int) from by omega]
            refine (digitsEnd_any b off c d hn (k + 2) _ HB.out).mono ?_
            rintro e w' ⟨rfl, rfl⟩
            obtain ⟨m, hm2⟩ : ∃ m, dEnd d (k + 2) = m := ⟨_, rfl⟩
            rw [hm2] at H4 hgt
            rw [hm2]
            clear hm2 hq
            go_wp2
            go_meet
            exact ⟨m, rfl, by omega, H4.out, rfl⟩
        have n1 : (x == 43) = false := by simpa using e1
        have n2 : (x == 45) = false := by simpa using e2
        have hf : expFrom d (k + 1) = k + 1 := by unfold expFrom; rw [if_neg (by simp only [sgnAt, sgn, HX.out, n1, n2]; simp)]
        have hq := dEnd_le d (k + 1) (by omega)
        by_cases h0 : dEnd d (k + 1) = k + 1
        · have HZ : Hid (xNum (d.drop p) = none) := at3_none s3 hm (by rw [hf]; exact h0)
          have H0 : Hid (dEnd d (k + 1) = k + 1) := h0
          clear h0 hf hm s3
          go_wp2_with fail
          rw [show ((k : Int) + 1) = ((k + 1 : Nat) : Int) from by omega]
          refine (digitsEnd_any b off c d hn (k + 1) _ HB.out).mono ?_
          rintro e w' ⟨rfl, rfl⟩
          rw [H0.out]
          go_wp2
          go_ret
          exact .inl ⟨HZ.out, rfl, nq, HW.out.symm⟩
        · have H4 : Hid (xNum (d.drop p) = some (dEnd d (k + 1) - p)) := by have := at4_exp s3 hm (by rw [hf]; omega); rw [hf] at this; exact this
          have hpk := s3.1
          have hgt : k + 1 < dEnd d (k + 1) := by omega
          clear h0 hf hm s3
          go_wp2_with fail
          rw [show ((k : Int) + 1) = ((k + 1 : Nat) : Int) from by omega]
          refine (digitsEnd_any b off c d hn (k + 1) _ HB.out).mono ?_
          rintro e w' ⟨rfl, rfl⟩
          obtain ⟨m, hm2⟩ : ∃ m, dEnd d (k + 1) = m := ⟨_, rfl⟩
          rw [hm2] at H4 hgt
          rw [hm2]
          clear hm2 hq
          go_wp2
          go_meet
          exact ⟨m, rfl, by omega, H4.out, rfl⟩
      · have hf : expFrom d (k + 1) = k + 1 := by unfold expFrom; rw [if_neg (by simp [sgnAt, hlt2])]
        have h0 : dEnd d (k + 1) = k + 1 := dEnd_miss (by simp [digAt, hlt2])
        have HZ : Hid (xNum (d.drop p) = none) := at3_none s3 hm (by rw [hf]; exact h0)
        have H0 : Hid (dEnd d (k + 1) = k + 1) := h0
        clear h0 hf hm s3
        go_wp2_with fail
        rw [show ((k : Int) + 1) = ((k + 1 : Nat) : Int) from by omega]
        refine (digitsEnd_any b off c d hn (k + 1) _ HB.out).mono ?_
        rintro e w' ⟨rfl, rfl⟩
        rw [H0.out]
        go_wp2
        go_ret
        exact .inl ⟨HZ.out, rfl, nq, HW.out.symm⟩
  clear s3 hk
  obtain ⟨m, rfl, hpm, s4, rfl⟩ := hcut
  have H4 : Hid (xNum (d.drop p) = some (m - p)) := s4
  clear s4
  go_wp2
  go_ret
  exact .inr ⟨m - p, H4.out, rfl, nq, by rw [HW.out, show p + (m - p) = m from by omega]⟩

/-- What 'number' answers, and where it stands then. -/
def numOk (d : List Int) (p : Nat) : Bool := (xNum (d.drop p)).isSome
def numEnd (d : List Int) (p : Nat) : Nat := p + (xNum (d.drop p)).getD 0

theorem bytes_alloc {w : World} {b off : Nat} {d : List Int} (hb : Bytes w b off d) (hlt : b < w.heap.size) (o : Obj) : Bytes (w.alloc o) b off d := fun i hi => by
  have h := hb i hi
  rw [← h]
  exact World.cell?_alloc_lt _ _ (a := ⟨b, off + i, none⟩) hlt

theorem below_end (w : World) (o : Obj) (q r : Nat) (v : Value) : Below w.heap.size w ((((w.alloc o).drewN q).setCell ⟨w.heap.size, 1, none⟩ v).drewN r) :=
  below_drewN (Below.setCell (below_drewN ((Below.refl _ _).alloc (Nat.le_refl _) _) _) (Nat.le_refl _) _) _
theorem below_end0 (w : World) (o : Obj) (q r : Nat) : Below w.heap.size w (((w.alloc o).drewN q).drewN r) :=
  below_drewN (below_drewN ((Below.refl _ _).alloc (Nat.le_refl _) _) _) _

set_option maxHeartbeats 1000000 in
theorem zzNumber_any (b off c p : Nat) (d : List Int) (hn : d.length ≤ 1000000) (hp : p ≤ 9223372036854775807) (w : World) (hb : Bytes w b off d) (hlt : b < w.heap.size) :
    Calls Try.prog 7 #[.slice (some ⟨b, off, none⟩) d.length c, .int .i64 p] w fun e w' => e = .returned (.tuple #[.bool (numOk d p), .int .i64 (numEnd d p)]) ∧ Below w.heap.size w w' := by
  go_enter Try.func7, Try.ntmps7
  go_wp2_with fail
  refine (number_any _ b off c p d hn hp _ (bytes_alloc hb hlt _) (by simp [go_sem]) (by simp [go_sem]) (by simp [go_sem])).mono ?_
  rintro e w' (⟨hx, rfl, q, rfl⟩ | ⟨k, hx, rfl, q, rfl⟩)
  · have E1 : Hid (numOk d p = false) := by show numOk d p = false; unfold numOk; rw [hx]; rfl
    have E2 : Hid (numEnd d p = p) := by show numEnd d p = p; unfold numEnd; rw [hx]; rfl
    clear hx
    go_wp2
    go_quiet (fail)
    go_wp2
    go_ret2
    exact ⟨by rw [E1.out, E2.out]; rfl, by repeat (first | exact Below.refl _ _ | refine below_drewN ?_ _ | refine Below.alloc ?_ (Nat.le_refl _) _)⟩
  · have E1 : Hid (numOk d p = true) := by show numOk d p = true; unfold numOk; rw [hx]; rfl
    have E2 : Hid (numEnd d p = p + k) := by show numEnd d p = p + k; unfold numEnd; rw [hx]; rfl
    clear hx
    go_wp2
    go_quiet (fail)
    go_wp2
    go_ret2
    exact ⟨by rw [E1.out, E2.out]; rfl, by repeat (first | exact Below.refl _ _ | refine below_drewN ?_ _ | refine Below.alloc ?_ (Nat.le_refl _) _ | refine Below.setCell (p := ⟨w.heap.size, 1, none⟩) ?_ (Nat.le_refl _) _)⟩

theorem number_nil (g p : Nat) (w : World) (h0 : w.cell? ⟨g, 0, none⟩ = some (.slice none 0 0)) (h1 : w.cell? ⟨g, 1, none⟩ = some (.int .i64 p)) :
    Calls Try.prog 15 #[.pointer (some ⟨g, 0, none⟩)] w fun e w' => e = .returned (.bool false) ∧ ∃ q, w' = w.drewN q := by
  have hp : ¬ (p : Int) < 0 := by omega
  go_enter Try.func15, Try.ntmps15
  go_wp2
  go_quiet (fail)
  go_wp2
  go_ret
  exact ⟨rfl, _, rfl⟩

theorem zzNumber_nil (p : Nat) (w : World) :
    Calls Try.prog 7 #[.slice none 0 0, .int .i64 p] w fun e w' => e = .returned (.tuple #[.bool false, .int .i64 p]) ∧ Below w.heap.size w w' := by
  go_enter Try.func7, Try.ntmps7
  go_wp2_with fail
  refine (number_nil _ p _ (by simp [go_sem]) (by simp [go_sem])).mono ?_
  rintro e w' ⟨rfl, q, rfl⟩
  go_wp2
  go_quiet (fail)
  go_wp2
  go_ret2
  exact ⟨rfl, by repeat (first | exact Below.refl _ _ | refine below_drewN ?_ _ | refine Below.alloc ?_ (Nat.le_refl _) _)⟩
end Go.Proofs.Qxb6605415a.Scan

import Derived.Test.Qxb6605415aStance
import Derived.WalkKit
import Derived.WalkSpells
import Derived.WalkLawsBesides
import Derived.Outline
import Derived.Deep.DeepCutAuto
import Derived.RowKit3
namespace Go.Proofs.Qxb6605415a.Stance
open Go.RowKit
set_option linter.unusedVariables false

theorem gtrans {a b c : World} (h1 : Grown a b) (h2 : Grown b c) : Grown a c :=
  ⟨World.keptBut_trans h1.1 h2.1, fun x => (h2.2.1 x).trans (h1.2.1 x), Nat.le_trans h1.2.2 h2.2.2⟩

theorem bytes_any (k bc pc ac hc cc c : Int) (bv pv v : ByteArray) (hp : Bool) (w : World) (h1 : bv.size ≤ maxLen) (h2 : pv.size ≤ maxLen) (h3 : v.size ≤ maxLen) :
    Calls Try.prog 13 #[.int .u8 k, .int .u32 bc, .string bv, .int .u32 pc, .string pv, .int .u32 ac, .int .u32 hc, .int .u32 cc, .bool hp, .int .u32 c, .string v] w fun e w' => ∃ b : Bool, e = .returned (.bool b) ∧ w' = w := by
  unfold maxLen at h1 h2 h3
  go_enter Try.func13, Try.ntmps13
  go_wp2
  all_goals (go_ret; exact ⟨_, rfl, rfl⟩)

/-- 'fresh'. -/
def frB (a2 a4 a10 : ByteArray) : Bool := !(a10.toList == a2.toList) && !(a10.toList == a4.toList)

theorem other_ne (x y : ByteArray) : ((x ++ y ++ { data := #[122] } : ByteArray).toList == x.toList) = false ∧ ((x ++ y ++ { data := #[122] } : ByteArray).toList == y.toList) = false := by
  have key : ∀ z : ByteArray, z.size < (x ++ y ++ { data := #[122] } : ByteArray).size → ((x ++ y ++ { data := #[122] } : ByteArray).toList == z.toList) = false := by
    intro z hz
    rw [beq_eq_false_iff_ne]
    intro h
    have h' := congrArg List.length h
    rw [ByteArray.toList_eq, ByteArray.toList_eq] at h'
    have e1 : ∀ b : ByteArray, b.data.toList.length = b.size := fun b => rfl
    rw [e1, e1] at h'
    omega
  have hs : (x ++ y ++ { data := #[122] } : ByteArray).size = x.size + y.size + 1 := by rw [ByteArray.size_append, ByteArray.size_append]; rfl
  exact ⟨key x (by omega), key y (by omega)⟩

theorem own1 (bc : Int) (bv : ByteArray) (pc : Int) (pv : ByteArray) (ac hc : Int) (hp : Bool) : ¬ st 1 bc bv pc pv ac hc hp bc bv < 1 := by
  have : cov bc bv bc bv = true := by simp [cov]
  simp only [st, this, if_true]; split <;> decide
theorem prep1 (bc : Int) (bv : ByteArray) (pc : Int) (pv : ByteArray) (ac hc : Int) : st 1 bc bv pc pv ac hc true pc pv = 2 := by
  have : cov pc pv pc pv = true := by simp [cov]
  simp [st, this]
theorem high1 (bc : Int) (bv : ByteArray) (pc : Int) (pv : ByteArray) (ac hc : Int) (hp : Bool) (h : 0 < hc) : st 1 bc bv pc pv ac hc hp hc bv = 2 := by
  have : cov hc bv hc bv = true := by simp [cov]
  simp [st, this, h]
theorem abort1 (bc : Int) (bv : ByteArray) (pc : Int) (pv : ByteArray) (ac hc : Int) (hp : Bool) (v : ByteArray) : st 1 bc bv pc pv ac hc hp (ac - 1) v = 2 := by
  have : ac - 1 < ac := by omega
  simp [st, this]
theorem above1 (bc : Int) (bv : ByteArray) (pc : Int) (pv : ByteArray) (ac hc : Int) (hp : Bool) (v : ByteArray) (h1 : (v.toList == bv.toList) = false) (h2 : (v.toList == pv.toList) = false) : st 1 bc bv pc pv ac hc hp (ac + 1) v = 0 := by
  have e1 : ∀ x y, cov x pv y v = false := by intro x y; simp [cov, h2]
  have e2 : ∀ x y, cov x bv y v = false := by intro x y; simp [cov, h1]
  have g1 : ¬ ac + 1 < ac := by omega
  have g2 : ¬ ac + 1 = ac := by omega
  simp [st, e1, e2, g1, g2]
theorem frB_parts {a2 a4 a10 : ByteArray} (h : frB a2 a4 a10 = true) : (a10.toList == a2.toList) = false ∧ (a10.toList == a4.toList) = false := by
  simpa [frB] using h
theorem own2 (bc : Int) (bv : ByteArray) (pc : Int) (pv : ByteArray) (ac hc : Int) (hp : Bool) (c : Int) : 1 ≤ st 2 bc bv pc pv ac hc hp c bv := by
  simp [st]; split <;> decide
theorem top2 (bc : Int) (bv : ByteArray) (pc : Int) (pv : ByteArray) (ac hc : Int) (hp : Bool) (c : Int) (h : c ≤ max pc hc) : st 2 bc bv pc pv ac hc hp c bv = 2 := by
  simp [st]; omega
theorem oth2 (bc : Int) (bv : ByteArray) (pc : Int) (pv : ByteArray) (ac hc : Int) (hp : Bool) (c : Int) (v : ByteArray) (h1 : (v.toList == bv.toList) = false) : st 2 bc bv pc pv ac hc hp c v = 0 := by
  simp [st, h1]
theorem own3 (bc : Int) (bv : ByteArray) (pc : Int) (pv : ByteArray) (ac hc : Int) (hp : Bool) (c : Int) : st 3 bc bv pc pv ac hc hp c bv = 2 := by
  simp [st]
theorem oth3 (bc : Int) (bv : ByteArray) (pc : Int) (pv : ByteArray) (ac hc : Int) (hp : Bool) (c : Int) (v : ByteArray) (h1 : (v.toList == bv.toList) = false) : st 3 bc bv pc pv ac hc hp c v = 0 := by
  simp [st, h1]
theorem st0 (k bc : Int) (bv : ByteArray) (pc : Int) (pv : ByteArray) (ac hc : Int) (hp : Bool) (c : Int) (v : ByteArray) (h1 : k ≠ 1) (h2 : k ≠ 2) (h3 : k ≠ 3) : st k bc bv pc pv ac hc hp c v = 0 := by
  simp [st, h1, h2, h3]

set_option maxRecDepth 100000 in
set_option maxHeartbeats 4000000 in
theorem law1 (a1 : Int) (a2 : ByteArray) (a3 : Int) (a4 : ByteArray) (a5 : Int) (a6 : Int) (a7 : Int) (a8 : Bool) (a9 : Int) (a10 : ByteArray) (w2 : a2.size ≤ maxLen) (w4 : a4.size ≤ maxLen) (b50 : 0 ≤ a5) (b51 : a5 ≤ 4294967295) (w10 : a10.size ≤ maxLen) (w : World) :
    Calls Try.prog 5 #[.int .u8 1, .int .u32 a1, .string a2, .int .u32 a3, .string a4, .int .u32 a5, .int .u32 a6, .int .u32 a7, .bool a8, .int .u32 a9, .string a10] w fun e w' => e = .returned (.bool true) ∧ Grown w w' := by
  have b2 := w2; have b4 := w4; have b10 := w10
  unfold maxLen at b2 b4 b10
  have o12 := other_ne a2 a4
  go_enter Try.func5, Try.ntmps5
  go_wp2_with fail
  refine (bytes_any _ _ _ _ _ _ _ _ _ _ _ _ w2 w4 w10).mono ?_
  rintro e w' ⟨b, rfl, rfl⟩
  cases b
  · go_wp2
    go_ret
    exact ⟨rfl, Grown.refl _⟩
  go_upto_region 10 with fail
  · go_ret
    exact ⟨rfl, Grown.refl _⟩
  · go_ret
    exact ⟨rfl, Grown.refl _⟩
  · go_ret
    exact ⟨rfl, Grown.refl _⟩
  generalize (a2 ++ a4 ++ { data := #[122] } : ByteArray) = ot at *
  obtain ⟨o1, o2⟩ := o12
  go_cut [24] from 28 to 61 (fun s wx => s = .bool (frB a2 a4 a10) ∧ w' = wx)
  case first =>
    cases h1 : (a10.toList == a2.toList) <;> cases h2 : (a10.toList == a4.toList)
    all_goals
      go_wp2
      go_meet
      exact ⟨by simp [frB, h1, h2], rfl⟩
  obtain ⟨rfl, rfl⟩ := hcut
  have f1 := own1 a1 a2 a3 a4 a5 a6 a8
  go_upto_region 17 with (go_at_call 14; refine (zz_any _ _ _ _ _ _ _ _ _ _ _ _).mono ?_; rintro e wy ⟨rfl, hg⟩)
  clear f1
  have G0 : Grown w' wy := gtrans (by assumption) hg
  go_cut [8, 106] from 62 to 105 (fun s t wx => s = .bool a8 ∧ t = .bool false ∧ Grown w' wx)
  case first =>
    cases a8
    · go_wp2
      go_meet
      exact ⟨rfl, rfl, G0⟩
    · have f2 := prep1 a1 a2 a3 a4 a5 a6
      go_wp2_with (go_at_call 14; refine (zz_any _ _ _ _ _ _ _ _ _ _ _ _).mono ?_; rintro e wy ⟨rfl, hg⟩)
      go_meet
      exact ⟨rfl, rfl, gtrans G0 (by assumption)⟩
  clear G0
  obtain ⟨rfl, rfl, G0⟩ := hcut
  go_upto_region 19 with fail
  go_cut [123] from 106 to 122 (fun t wx => t = .bool false ∧ Grown w' wx)
  case first =>
    by_cases h : 0 < a6
    · have f2 := high1 a1 a2 a3 a4 a5 a6 a8 h
      go_wp2_with (go_at_call 14; refine (zz_any _ _ _ _ _ _ _ _ _ _ _ _).mono ?_; rintro e wy ⟨rfl, hg⟩)
      go_meet
      exact ⟨rfl, gtrans G0 (by assumption)⟩
    · go_wp2
      go_meet
      exact ⟨rfl, G0⟩
  clear G0
  obtain ⟨rfl, G0⟩ := hcut
  go_upto_region 21 with fail
  go_cut [141] from 123 to 140 (fun t wx => t = .bool false ∧ Grown w' wx)
  case first =>
    by_cases h : 0 < a5
    · have f2 := abort1 a1 a2 a3 a4 a5 a6 a8 ot
      go_wp2_with (go_at_call 14; refine (zz_any _ _ _ _ _ _ _ _ _ _ _ _).mono ?_; rintro e wy ⟨rfl, hg⟩)
      go_meet
      exact ⟨rfl, gtrans G0 (by assumption)⟩
    · go_wp2
      go_meet
      exact ⟨rfl, G0⟩
  clear G0
  obtain ⟨rfl, G0⟩ := hcut
  go_upto_region 23 with fail
  go_cut [159] from 141 to 158 (fun t wx => t = .bool false ∧ Grown w' wx)
  case first =>
    by_cases h : 0 < a5
    · have f2 := abort1 a1 a2 a3 a4 a5 a6 a8 a10
      go_wp2_with (go_at_call 14; refine (zz_any _ _ _ _ _ _ _ _ _ _ _ _).mono ?_; rintro e wy ⟨rfl, hg⟩)
      go_meet
      exact ⟨rfl, gtrans G0 (by assumption)⟩
    · go_wp2
      go_meet
      exact ⟨rfl, G0⟩
  clear G0
  obtain ⟨rfl, G0⟩ := hcut
  go_upto_region 25 with fail
  go_cut [177] from 159 to 176 (fun t wx => t = .bool false ∧ Grown w' wx)
  case first =>
    by_cases h : a5 < 4294967295
    · have f2 := above1 a1 a2 a3 a4 a5 a6 a8 ot o1 o2
      go_wp2_with (go_at_call 14; refine (zz_any _ _ _ _ _ _ _ _ _ _ _ _).mono ?_; rintro e wy ⟨rfl, hg⟩)
      go_meet
      exact ⟨rfl, gtrans G0 (by assumption)⟩
    · go_wp2
      go_meet
      exact ⟨rfl, G0⟩
  clear G0
  obtain ⟨rfl, G0⟩ := hcut
  go_upto_region 27 with fail
  cases hfr : frB a2 a4 a10
  · go_wp2
    go_ret
    exact ⟨rfl, G0⟩
  · by_cases h : a5 < 4294967295
    · have f2 := above1 a1 a2 a3 a4 a5 a6 a8 a10 (frB_parts hfr).1 (frB_parts hfr).2
      go_wp2_with (go_at_call 14; refine (zz_any _ _ _ _ _ _ _ _ _ _ _ _).mono ?_; rintro e wy ⟨rfl, hg⟩)
      go_ret
      exact ⟨rfl, gtrans G0 (by assumption)⟩
    · go_wp2
      go_ret
      exact ⟨rfl, G0⟩

set_option maxRecDepth 100000 in
set_option maxHeartbeats 4000000 in
theorem law2 (a1 : Int) (a2 : ByteArray) (a3 : Int) (a4 : ByteArray) (a5 : Int) (a6 : Int) (a7 : Int) (a8 : Bool) (a9 : Int) (a10 : ByteArray) (w2 : a2.size ≤ maxLen) (w4 : a4.size ≤ maxLen) (b50 : 0 ≤ a5) (b51 : a5 ≤ 4294967295) (w10 : a10.size ≤ maxLen) (w : World) :
    Calls Try.prog 5 #[.int .u8 2, .int .u32 a1, .string a2, .int .u32 a3, .string a4, .int .u32 a5, .int .u32 a6, .int .u32 a7, .bool a8, .int .u32 a9, .string a10] w fun e w' => e = .returned (.bool true) ∧ Grown w w' := by
  have b2 := w2; have b4 := w4; have b10 := w10
  unfold maxLen at b2 b4 b10
  have o12 := other_ne a2 a4
  go_enter Try.func5, Try.ntmps5
  go_wp2_with fail
  refine (bytes_any _ _ _ _ _ _ _ _ _ _ _ _ w2 w4 w10).mono ?_
  rintro e w' ⟨b, rfl, rfl⟩
  cases b
  · go_wp2
    go_ret
    exact ⟨rfl, Grown.refl _⟩
  go_upto_region 10 with fail
  · go_ret
    exact ⟨rfl, Grown.refl _⟩
  · go_ret
    exact ⟨rfl, Grown.refl _⟩
  · go_ret
    exact ⟨rfl, Grown.refl _⟩
  generalize (a2 ++ a4 ++ { data := #[122] } : ByteArray) = ot at *
  obtain ⟨o1, o2⟩ := o12
  go_cut [24] from 28 to 61 (fun s wx => s = .bool (frB a2 a4 a10) ∧ w' = wx)
  case first =>
    cases h1 : (a10.toList == a2.toList) <;> cases h2 : (a10.toList == a4.toList)
    all_goals
      go_wp2
      go_meet
      exact ⟨by simp [frB, h1, h2], rfl⟩
  obtain ⟨rfl, rfl⟩ := hcut
  have f1 := own2 a1 a2 a3 a4 a5 a6 a8 a1
  have f3 := own2 a1 a2 a3 a4 a5 a6 a8 4294967295
  have f4 := oth2 a1 a2 a3 a4 a5 a6 a8 0 ot o1
  by_cases ht : a3 < a6
  · have f2 := top2 a1 a2 a3 a4 a5 a6 a8 a6 (by omega)
    cases hfr : frB a2 a4 a10
    · go_wp2_with (go_at_call 14; refine (zz_any _ _ _ _ _ _ _ _ _ _ _ _).mono ?_; rintro e wy ⟨rfl, hg⟩)
      go_ret
      exact ⟨rfl, (by repeat (first | exact Grown.refl _ | assumption | refine gtrans ?_ (by assumption)))⟩
    · have f9 := oth2 a1 a2 a3 a4 a5 a6 a8 a9 a10 (frB_parts hfr).1
      go_wp2_with (go_at_call 14; refine (zz_any _ _ _ _ _ _ _ _ _ _ _ _).mono ?_; rintro e wy ⟨rfl, hg⟩)
      go_ret
      exact ⟨rfl, (by repeat (first | exact Grown.refl _ | assumption | refine gtrans ?_ (by assumption)))⟩
  · have f2 := top2 a1 a2 a3 a4 a5 a6 a8 a3 (by omega)
    cases hfr : frB a2 a4 a10
    · go_wp2_with (go_at_call 14; refine (zz_any _ _ _ _ _ _ _ _ _ _ _ _).mono ?_; rintro e wy ⟨rfl, hg⟩)
      go_ret
      exact ⟨rfl, (by repeat (first | exact Grown.refl _ | assumption | refine gtrans ?_ (by assumption)))⟩
    · have f9 := oth2 a1 a2 a3 a4 a5 a6 a8 a9 a10 (frB_parts hfr).1
      go_wp2_with (go_at_call 14; refine (zz_any _ _ _ _ _ _ _ _ _ _ _ _).mono ?_; rintro e wy ⟨rfl, hg⟩)
      go_ret
      exact ⟨rfl, (by repeat (first | exact Grown.refl _ | assumption | refine gtrans ?_ (by assumption)))⟩

set_option maxRecDepth 100000 in
set_option maxHeartbeats 4000000 in
theorem law3 (a1 : Int) (a2 : ByteArray) (a3 : Int) (a4 : ByteArray) (a5 : Int) (a6 : Int) (a7 : Int) (a8 : Bool) (a9 : Int) (a10 : ByteArray) (w2 : a2.size ≤ maxLen) (w4 : a4.size ≤ maxLen) (b50 : 0 ≤ a5) (b51 : a5 ≤ 4294967295) (w10 : a10.size ≤ maxLen) (w : World) :
    Calls Try.prog 5 #[.int .u8 3, .int .u32 a1, .string a2, .int .u32 a3, .string a4, .int .u32 a5, .int .u32 a6, .int .u32 a7, .bool a8, .int .u32 a9, .string a10] w fun e w' => e = .returned (.bool true) ∧ Grown w w' := by
  have b2 := w2; have b4 := w4; have b10 := w10
  unfold maxLen at b2 b4 b10
  have o12 := other_ne a2 a4
  go_enter Try.func5, Try.ntmps5
  go_wp2_with fail
  refine (bytes_any _ _ _ _ _ _ _ _ _ _ _ _ w2 w4 w10).mono ?_
  rintro e w' ⟨b, rfl, rfl⟩
  cases b
  · go_wp2
    go_ret
    exact ⟨rfl, Grown.refl _⟩
  go_upto_region 10 with fail
  · go_ret
    exact ⟨rfl, Grown.refl _⟩
  · go_ret
    exact ⟨rfl, Grown.refl _⟩
  · go_ret
    exact ⟨rfl, Grown.refl _⟩
  generalize (a2 ++ a4 ++ { data := #[122] } : ByteArray) = ot at *
  obtain ⟨o1, o2⟩ := o12
  go_cut [24] from 28 to 61 (fun s wx => s = .bool (frB a2 a4 a10) ∧ w' = wx)
  case first =>
    cases h1 : (a10.toList == a2.toList) <;> cases h2 : (a10.toList == a4.toList)
    all_goals
      go_wp2
      go_meet
      exact ⟨by simp [frB, h1, h2], rfl⟩
  obtain ⟨rfl, rfl⟩ := hcut
  have f1 := own3 a1 a2 a3 a4 a5 a6 a8
  have f4 := oth3 a1 a2 a3 a4 a5 a6 a8 0 ot o1
  cases hfr : frB a2 a4 a10
  · go_wp2_with (go_at_call 14; refine (zz_any _ _ _ _ _ _ _ _ _ _ _ _).mono ?_; rintro e wy ⟨rfl, hg⟩)
    go_ret
    exact ⟨rfl, (by repeat (first | exact Grown.refl _ | assumption | refine gtrans ?_ (by assumption)))⟩
  · have f9 := oth3 a1 a2 a3 a4 a5 a6 a8 a9 a10 (frB_parts hfr).1
    go_wp2_with (go_at_call 14; refine (zz_any _ _ _ _ _ _ _ _ _ _ _ _).mono ?_; rintro e wy ⟨rfl, hg⟩)
    go_ret
    exact ⟨rfl, (by repeat (first | exact Grown.refl _ | assumption | refine gtrans ?_ (by assumption)))⟩

set_option maxRecDepth 100000 in
set_option maxHeartbeats 4000000 in
theorem law0 (a0 : Int) (n1 : (a0 == 1) = false) (n2 : (a0 == 2) = false) (n3 : (a0 == 3) = false) (a1 : Int) (a2 : ByteArray) (a3 : Int) (a4 : ByteArray) (a5 : Int) (a6 : Int) (a7 : Int) (a8 : Bool) (a9 : Int) (a10 : ByteArray) (w2 : a2.size ≤ maxLen) (w4 : a4.size ≤ maxLen) (b50 : 0 ≤ a5) (b51 : a5 ≤ 4294967295) (w10 : a10.size ≤ maxLen) (w : World) :
    Calls Try.prog 5 #[.int .u8 a0, .int .u32 a1, .string a2, .int .u32 a3, .string a4, .int .u32 a5, .int .u32 a6, .int .u32 a7, .bool a8, .int .u32 a9, .string a10] w fun e w' => e = .returned (.bool true) ∧ Grown w w' := by
  have b2 := w2; have b4 := w4; have b10 := w10
  unfold maxLen at b2 b4 b10
  have o12 := other_ne a2 a4
  go_enter Try.func5, Try.ntmps5
  go_wp2_with fail
  refine (bytes_any _ _ _ _ _ _ _ _ _ _ _ _ w2 w4 w10).mono ?_
  rintro e w' ⟨b, rfl, rfl⟩
  cases b
  · go_wp2
    go_ret
    exact ⟨rfl, Grown.refl _⟩
  go_upto_region 10 with fail
  · go_ret
    exact ⟨rfl, Grown.refl _⟩
  · go_ret
    exact ⟨rfl, Grown.refl _⟩
  · go_ret
    exact ⟨rfl, Grown.refl _⟩
  generalize (a2 ++ a4 ++ { data := #[122] } : ByteArray) = ot at *
  obtain ⟨o1, o2⟩ := o12
  go_cut [24] from 28 to 61 (fun s wx => s = .bool (frB a2 a4 a10) ∧ w' = wx)
  case first =>
    cases h1 : (a10.toList == a2.toList) <;> cases h2 : (a10.toList == a4.toList)
    all_goals
      go_wp2
      go_meet
      exact ⟨by simp [frB, h1, h2], rfl⟩
  obtain ⟨rfl, rfl⟩ := hcut
  have f1 := fun c v => st0 a0 a1 a2 a3 a4 a5 a6 a8 c v (by simpa using n1) (by simpa using n2) (by simpa using n3)
  go_wp2_with (go_at_call 14; refine (zz_any _ _ _ _ _ _ _ _ _ _ _ _).mono ?_; rintro e wy ⟨rfl, hg⟩)
  go_ret
  exact ⟨rfl, (by repeat (first | exact Grown.refl _ | assumption | refine gtrans ?_ (by assumption)))⟩
end Go.Proofs.Qxb6605415a.Stance

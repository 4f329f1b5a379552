import Derived.Test.Qxb6600465aJoinAll
import Derived.Deep.DeepCutAuto
import Derived.Deep.CutBlock
import Derived.Deep.AppendLies
import Derived.Deep.RegionHeld3
import Derived.Deep.QuietTactic
import Derived.BigQuiet
import Derived.Laws.OwnMore
namespace Go.Proofs.Qxb6600465a.Ere
open Go.RowKit

/-- The subs' slice: m pointers in a row between lo and hi, each to a tree of its own. -/
def Lay (w : World) (m : Nat) (sub : Nat → Nat) (P : Nat → Nat → Nat → Nat → Prop) (lo hi : Nat) (v : Value) : Prop :=
  ∃ a c, v = .slice a m c ∧ (m = 0 ∨ ∃ h, a = some ⟨h, 0, none⟩ ∧ lo ≤ h ∧ h < hi ∧ ∀ i, i < m → ∃ gi li ui, w.cell? ⟨h, i, none⟩ = some (.pointer (some ⟨gi, 0, none⟩)) ∧ lo ≤ li ∧ ui ≤ hi ∧ P li ui gi (sub i))
/-- A tree in memory, in blocks from lo to hi, as the code says from pos on. 'Nd': how a node's own cells look. -/
def Tree (Nd : World → Nat → Nat → Nat → Int → Value → Prop) (d : List Int) (w : World) : Nat → Nat → Nat → Nat → Nat → Prop
  | 0, lo, hi, g, pos => lo ≤ g ∧ g < hi ∧ ∃ v, Nd w g (kindAt d 0 pos) (minAt d 0 pos) (maxAt d 0 pos) v ∧ Lay w 0 (fun _ => 0) (fun _ _ _ _ => True) lo hi v
  | n + 1, lo, hi, g, pos => lo ≤ g ∧ g < hi ∧ ∃ v, Nd w g (kindAt d (n + 1) pos) (minAt d (n + 1) pos) (maxAt d (n + 1) pos) v ∧ Lay w (cntAt d (n + 1) pos) (subAt d n pos) (Tree Nd d w n) lo hi v
/-- A 'tnode'. -/
def NdT (w : World) (g : Nat) (k mn : Nat) (mx : Int) (v : Value) : Prop :=
  w.cell? ⟨g, 0, none⟩ = some (.int .i64 (k : Int)) ∧ w.cell? ⟨g, 1, none⟩ = some (.int .i64 (mn : Int)) ∧ w.cell? ⟨g, 2, none⟩ = some (.int .i64 mx) ∧ w.cell? ⟨g, 3, none⟩ = some v

theorem cnt_zero (d : List Int) (pos : Nat) : cntAt d 0 pos = 0 := by
  have := kind_zero d pos
  unfold cntAt
  rw [if_neg (by omega), if_neg (by omega), if_neg (by omega), if_neg (by omega)]
theorem cnt_le (d : List Int) (n pos : Nat) : cntAt d n pos ≤ 3 := by
  unfold cntAt; repeat' split
  all_goals omega

/-- The kinds, one by one. -/
theorem nine {K : Nat} (h : K ≤ 8) : K = 0 ∨ K = 1 ∨ K = 2 ∨ K = 3 ∨ K = 4 ∨ K = 5 ∨ K = 6 ∨ K = 7 ∨ K = 8 := by omega

set_option maxHeartbeats 4000000 in
theorem traces_any (d : List Int) : ∀ n pos g lo hi (w : World), Tree NdT d w n lo hi g pos →
    Calls Try.prog 11 #[.pointer (some ⟨g, 0, none⟩)] w fun e w' => e = .returned (.int .i64 (tr d n pos)) ∧ w' = w := by
  intro n
  induction n with
  | zero =>
    intro pos g lo hi w ⟨_, _, v, ⟨h0, h1, h2, h3⟩, _⟩
    have hz := kind_zero d pos
    have hk := kind_le d 0 pos
    have HT : Hid (tr d 0 pos = trK (kindAt d 0 pos) 0 0 0 (fun _ => 0)) := rfl
    obtain ⟨K, hK⟩ : ∃ K, kindAt d 0 pos = K := ⟨_, rfl⟩
    rw [hK] at h0 HT hz hk
    clear hK h1 h2 h3
    rcases nine hk with rfl | rfl | rfl | rfl | rfl | rfl | rfl | rfl | rfl
    case inr.inr.inr.inr.inl => omega
    case inr.inr.inr.inr.inr.inl => omega
    case inr.inr.inr.inr.inr.inr.inl => omega
    case inr.inr.inr.inr.inr.inr.inr.inl => omega
    all_goals
      clear hz hk
      go_enter Try.func11, Try.ntmps11
      go_wp2_with fail
      go_ret
      exact ⟨ret_int (by rw [HT.out]; rfl), rfl⟩
  | succ n ih =>
    have IH : Hid (∀ pos g lo hi (w : World), Tree NdT d w n lo hi g pos → Calls Try.prog 11 #[.pointer (some ⟨g, 0, none⟩)] w fun e w' => e = .returned (.int .i64 (tr d n pos)) ∧ w' = w) := ih
    clear ih
    rintro pos g lo hi w ⟨_, _, v, ⟨h0, h1, h2, h3⟩, a, c, rfl, hlay⟩
    have hk := kind_le d (n + 1) pos
    have hcnt : (kindAt d (n + 1) pos = 4 ∨ kindAt d (n + 1) pos = 7) → cntAt d (n + 1) pos = 1 := by
      intro h; unfold cntAt; rcases h with h | h <;> simp [h]
    have hc3 := cnt_le d (n + 1) pos
    have HT : Hid (tr d (n + 1) pos = trK (kindAt d (n + 1) pos) (minAt d (n + 1) pos) (maxAt d (n + 1) pos) (cntAt d (n + 1) pos) (fun i => tr d n (subAt d n pos i))) := rfl
    have HL : Hid (∀ i, i < cntAt d (n + 1) pos → ∃ h gi li ui, a = some ⟨h, 0, none⟩ ∧ w.cell? ⟨h, i, none⟩ = some (.pointer (some ⟨gi, 0, none⟩)) ∧ Tree NdT d w n li ui gi (subAt d n pos i)) := by
      intro i hi
      rcases hlay with h | ⟨h, rfl, _, _, hs⟩
      · omega
      · obtain ⟨gi, li, ui, q1, _, _, q2⟩ := hs i hi
        exact ⟨h, gi, li, ui, rfl, q1, q2⟩
    clear hlay
    obtain ⟨K, hK⟩ : ∃ K, kindAt d (n + 1) pos = K := ⟨_, rfl⟩
    obtain ⟨mn, hmn⟩ : ∃ mn, minAt d (n + 1) pos = mn := ⟨_, rfl⟩
    obtain ⟨mx, hmx⟩ : ∃ mx, maxAt d (n + 1) pos = mx := ⟨_, rfl⟩
    obtain ⟨m, hm⟩ : ∃ m, cntAt d (n + 1) pos = m := ⟨_, rfl⟩
    obtain ⟨f, hf⟩ : ∃ f, (fun i => tr d n (subAt d n pos i)) = f := ⟨_, rfl⟩
    have HF : Hid (∀ i, tr d n (subAt d n pos i) = f i) := fun i => by rw [← hf]
    rw [hK, hmn, hmx, hm, hf] at HT
    rw [hK] at h0 hk hcnt
    rw [hmn] at h1
    rw [hmx] at h2
    rw [hm] at h3 hcnt HL hc3
    clear hK hmn hmx hm hf
    rcases nine hk with rfl | rfl | rfl | rfl | rfl | rfl | rfl | rfl | rfl
    case inr.inr.inr.inr.inl =>
      -- a group
      obtain rfl := hcnt (.inl rfl)
      obtain ⟨h, gi, li, ui, rfl, hcell, ht⟩ := HL.out 0 (by omega)
      have HC : Hid (Calls Try.prog 11 #[.pointer (some ⟨gi, 0, none⟩)] w fun e w' => e = .returned (.int .i64 (f 0)) ∧ w' = w) := by have := IH.out _ _ _ _ w ht; rw [HF.out 0] at this; exact this
      clear hcnt ht
      go_enter Try.func11, Try.ntmps11
      go_wp2_with (go_at_call 11; refine HC.out.mono ?_; rintro e wy ⟨rfl, hw⟩; subst hw)
      go_ret
      exact ⟨ret_int (by rw [HT.out]; rfl), rfl⟩
    case inr.inr.inr.inr.inr.inl =>
      clear hcnt hk
      go_enter Try.func11, Try.ntmps11
      go_wp2_with fail
      go_loop [3, 4] (fun va vk => ∃ k : Nat, k ≤ m ∧ vk = .int .i64 k ∧ va = .int .i64 (cat f k)) (fun _ v => m - (intOf v).toNat)
      case atStart => exact ⟨0, Nat.zero_le _, rfl, rfl⟩
      case round =>
        obtain ⟨k, hk, rfl, rfl⟩ := hrel
        by_cases hlt : k < m
        · obtain ⟨h, gi, li, ui, rfl, hcell, ht⟩ := HL.out k hlt
          have HC : Hid (Calls Try.prog 11 #[.pointer (some ⟨gi, 0, none⟩)] w fun e w' => e = .returned (.int .i64 (f k)) ∧ w' = w) := by have := IH.out _ _ _ _ w ht; rw [HF.out k] at this; exact this
          have E : Hid (cat f (k + 1) = jn (cat f k) (f k)) := rfl
          obtain ⟨x, hx⟩ : ∃ x, cat f k = x := ⟨_, rfl⟩
          obtain ⟨y, hy⟩ : ∃ y, f k = y := ⟨_, rfl⟩
          rw [hx, hy] at E
          rw [hy] at HC
          rw [hx]
          clear hx hy ht
          go_wp2_with (first | (go_at_call 11; refine HC.out.mono ?_; rintro e wy ⟨rfl, hw⟩; subst hw) | (go_at_call 14; refine (joinAll_any x y _).mono ?_; rintro e wz ⟨rfl, hw⟩; subst hw))
          go_round
          case rel => exact ⟨k + 1, by omega, by go_num, by rw [E.out]⟩
          case measure => simp [intOf]; omega
        · obtain rfl : k = m := by omega
          go_wp2_with fail
          go_ret
          exact ⟨ret_int (by rw [HT.out]; rfl), rfl⟩
    case inr.inr.inr.inr.inr.inr.inl =>
      clear hcnt hk
      go_enter Try.func11, Try.ntmps11
      go_wp2_with fail
      go_loop [5, 6] (fun va vk => ∃ k : Nat, k ≤ m ∧ vk = .int .i64 k ∧ va = .int .i64 (alt f k)) (fun _ v => m - (intOf v).toNat)
      case atStart => exact ⟨0, Nat.zero_le _, rfl, rfl⟩
      case round =>
        obtain ⟨k, hk, rfl, rfl⟩ := hrel
        by_cases hlt : k < m
        · obtain ⟨h, gi, li, ui, rfl, hcell, ht⟩ := HL.out k hlt
          have HC : Hid (Calls Try.prog 11 #[.pointer (some ⟨gi, 0, none⟩)] w fun e w' => e = .returned (.int .i64 (f k)) ∧ w' = w) := by have := IH.out _ _ _ _ w ht; rw [HF.out k] at this; exact this
          have E : Hid (alt f (k + 1) = orI (alt f k) (f k)) := rfl
          obtain ⟨x, hx⟩ : ∃ x, alt f k = x := ⟨_, rfl⟩
          obtain ⟨y, hy⟩ : ∃ y, f k = y := ⟨_, rfl⟩
          rw [hx, hy] at E
          rw [hy] at HC
          rw [hx]
          clear hx hy ht
          go_wp2_with (go_at_call 11; refine HC.out.mono ?_; rintro e wy ⟨rfl, hw⟩; subst hw)
          go_round
          case rel => exact ⟨k + 1, by omega, by go_num, by rw [E.out]; rfl⟩
          case measure => simp [intOf]; omega
        · obtain rfl : k = m := by omega
          go_wp2_with fail
          go_ret
          exact ⟨ret_int (by rw [HT.out]; rfl), rfl⟩
    case inr.inr.inr.inr.inr.inr.inr.inl =>
      -- a repeat
      obtain rfl := hcnt (.inr rfl)
      obtain ⟨h, gi, li, ui, rfl, hcell, ht⟩ := HL.out 0 (by omega)
      have HC : Hid (Calls Try.prog 11 #[.pointer (some ⟨gi, 0, none⟩)] w fun e w' => e = .returned (.int .i64 (f 0)) ∧ w' = w) := by have := IH.out _ _ _ _ w ht; rw [HF.out 0] at this; exact this
      obtain ⟨s, hs⟩ : ∃ s, f 0 = s := ⟨_, rfl⟩
      rw [hs] at HC
      have HS : Hid (f 0 = s) := hs
      clear hcnt ht hs hk
      go_enter Try.func11, Try.ntmps11
      go_wp2_with (go_at_call 11; refine HC.out.mono ?_; rintro e wy ⟨rfl, hw⟩; subst hw)
      go_loop [8, 9, 10] (fun vp vo vk => ∃ k : Nat, k ≤ 9 ∧ vk = .int .i64 k ∧ vp = .int .i64 (pw s k) ∧ vo = .int .i64 (ro s mn mx k)) (fun _ _ v => 9 - (intOf v).toNat)
      case atStart => exact ⟨0, Nat.zero_le _, rfl, rfl, rfl⟩
      case round =>
        obtain ⟨k, hk, rfl, rfl, rfl⟩ := hrel
        by_cases hlt : k ≤ 8
        · have E1 : Hid (pw s (k + 1) = jn (pw s k) s) := rfl
          obtain ⟨x, hx⟩ : ∃ x, pw s k = x := ⟨_, rfl⟩
          obtain ⟨y, hy⟩ : ∃ y, ro s mn mx k = y := ⟨_, rfl⟩
          have E2 : Hid (ro s mn mx (k + 1) = if (mn : Int) ≤ (k : Int) ∧ (mx < 0 ∨ (k : Int) ≤ mx) then orI (ro s mn mx k) (pw s k) else ro s mn mx k) := rfl
          rw [hx] at E1
          rw [hx, hy] at E2
          rw [hx, hy]
          clear hx hy
          by_cases c1 : (mn : Int) ≤ (k : Int)
          · by_cases c2 : mx < 0
            · have E3 : Hid (ro s mn mx (k + 1) = orI y x) := by show _ = _; rw [E2.out, if_pos ⟨c1, .inl c2⟩]
              go_wp2_with (go_at_call 14; refine (joinAll_any x s _).mono ?_; rintro e wz ⟨rfl, hw⟩; subst hw)
              go_round
              case rel => exact ⟨k + 1, by omega, by go_num, by rw [E1.out], by rw [E3.out]; rfl⟩
              case measure => simp [intOf]; omega
            · by_cases c3 : (k : Int) ≤ mx
              · have E3 : Hid (ro s mn mx (k + 1) = orI y x) := by show _ = _; rw [E2.out, if_pos ⟨c1, .inr c3⟩]
                go_wp2_with (go_at_call 14; refine (joinAll_any x s _).mono ?_; rintro e wz ⟨rfl, hw⟩; subst hw)
                go_round
                case rel => exact ⟨k + 1, by omega, by go_num, by rw [E1.out], by rw [E3.out]; rfl⟩
                case measure => simp [intOf]; omega
              · have E3 : Hid (ro s mn mx (k + 1) = y) := by show _ = _; rw [E2.out, if_neg (by omega)]
                go_wp2_with (go_at_call 14; refine (joinAll_any x s _).mono ?_; rintro e wz ⟨rfl, hw⟩; subst hw)
                go_round
                case rel => exact ⟨k + 1, by omega, by go_num, by rw [E1.out], by rw [E3.out]⟩
                case measure => simp [intOf]; omega
          · have E3 : Hid (ro s mn mx (k + 1) = y) := by show _ = _; rw [E2.out, if_neg (by omega)]
            go_wp2_with (go_at_call 14; refine (joinAll_any x s _).mono ?_; rintro e wz ⟨rfl, hw⟩; subst hw)
            go_round
            case rel => exact ⟨k + 1, by omega, by go_num, by rw [E1.out], by rw [E3.out]⟩
            case measure => simp [intOf]; omega
        · obtain rfl : k = 9 := by omega
          go_wp2_with fail
          go_ret
          exact ⟨ret_int (by rw [HT.out, ← HS.out]; rfl), rfl⟩
    all_goals
      clear hcnt hk
      go_enter Try.func11, Try.ntmps11
      go_wp2_with fail
      go_ret
      exact ⟨ret_int (by rw [HT.out]; rfl), rfl⟩
end Go.Proofs.Qxb6600465a.Ere

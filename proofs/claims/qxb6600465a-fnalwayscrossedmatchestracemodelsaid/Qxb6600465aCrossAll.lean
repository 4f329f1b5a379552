import Derived.Test.Qxb6600465aCrossed
import Derived.WalkSmall
namespace Go.Proofs.Qxb6600465a.Ere
open Go.RowKit

/-- 'alwaysCrossed' at every tree. -/
theorem cross_any (d : List Int) : ∀ n, CrossAt d n := by
  intro n
  induction n with
  | zero =>
    rintro pos g lo hi w hhi ⟨hg1, hg2, v, ⟨h0, h1, h2, h3⟩, _⟩
    have hz := kind_zero d pos
    have hk := kind_le d 0 pos
    refine cross_leaf d 0 pos g w (by omega) _ h0 (by omega) ?_ ?_
    · have e1 : cr d 2 0 pos = crK 2 (kindAt d 0 pos) 0 0 (fun _ => false) := rfl
      rw [e1]
      obtain ⟨K, hK⟩ : ∃ K, kindAt d 0 pos = K := ⟨_, rfl⟩
      rw [hK] at hz hk ⊢
      rcases nine hk with rfl | rfl | rfl | rfl | rfl | rfl | rfl | rfl | rfl <;> first | rfl | omega
    · have e1 : cr d 3 0 pos = crK 3 (kindAt d 0 pos) 0 0 (fun _ => false) := rfl
      rw [e1]
      obtain ⟨K, hK⟩ : ∃ K, kindAt d 0 pos = K := ⟨_, rfl⟩
      rw [hK] at hz hk ⊢
      rcases nine hk with rfl | rfl | rfl | rfl | rfl | rfl | rfl | rfl | rfl <;> first | rfl | omega
  | succ n ih =>
    rintro pos g lo hi w hhi ⟨hg1, hg2, v, ⟨h0, h1, h2, h3⟩, a, c, rfl, hlay⟩
    have hglt : g < w.heap.size := by omega
    have hk := kind_le d (n + 1) pos
    have hcnt : (kindAt d (n + 1) pos = 4 ∨ kindAt d (n + 1) pos = 7) → cntAt d (n + 1) pos = 1 := by
      intro h; unfold cntAt; rcases h with h | h <;> simp [h]
    have hc3 := cnt_le d (n + 1) pos
    have HL : ∀ i, i < cntAt d (n + 1) pos → ∃ h gi, a = some ⟨h, 0, none⟩ ∧ h < w.heap.size ∧ w.cell? ⟨h, i, none⟩ = some (.pointer (some ⟨gi, 0, none⟩)) ∧ ∀ w1, Below w.heap.size w w1 → Calls Try.prog 12 #[.pointer (some ⟨gi, 0, none⟩)] w1 fun e w' => Pairs (cr d 2 n (subAt d n pos i)) (cr d 3 n (subAt d n pos i)) w1 w' e := by
      intro i hi'
      rcases hlay with h | ⟨h, rfl, _, hh, hs⟩
      · omega
      · obtain ⟨gi, li, ui, q1, _, q3, q2⟩ := hs i hi'
        refine ⟨h, gi, rfl, by omega, q1, fun w1 hb => ?_⟩
        exact ih _ gi li ui w1 (by have := hb.size; omega) (tree_kept ndE_own d n li ui gi _ (fun q _ q5 => hb.block q (by omega)) q2)
    have e2 : ∀ me, cr d me (n + 1) pos = crK me (kindAt d (n + 1) pos) (minAt d (n + 1) pos) (cntAt d (n + 1) pos) (fun i => cr d me n (subAt d n pos i)) := fun _ => rfl
    obtain ⟨K, hK⟩ : ∃ K, kindAt d (n + 1) pos = K := ⟨_, rfl⟩
    rw [hK] at h0 hk hcnt
    by_cases h4 : K = 4
    · subst h4
      have hm := hcnt (.inl rfl)
      obtain ⟨h, gi, rfl, hh, hcell, hc⟩ := HL 0 (by omega)
      rw [hm] at h3
      rw [e2, e2, hK]
      exact cross_4 g h gi c w hglt hh h0 h3 hcell _ _ hc
    by_cases h5 : K = 5
    · subst h5
      rw [e2, e2, hK]
      exact cross_5 g _ c hc3 a w hglt h0 h3 _ _ HL
    by_cases h6 : K = 6
    · subst h6
      rw [e2, e2, hK]
      exact cross_6 g _ c hc3 a w hglt h0 h3 _ _ HL
    by_cases h7 : K = 7
    · subst h7
      have hm := hcnt (.inr rfl)
      obtain ⟨h, gi, rfl, hh, hcell, hc⟩ := HL 0 (by omega)
      rw [hm] at h3
      rw [e2, e2, hK]
      by_cases hmn : minAt d (n + 1) pos = 0
      · rw [hmn] at h1 ⊢
        exact cross_70 g w hglt h0 h1
      · have q : ∀ me f, crK me 7 (minAt d (n + 1) pos) (cntAt d (n + 1) pos) f = f 0 := by intro me f; simp [crK, hmn]
        rw [q, q]
        exact cross_7 g h gi c _ w hglt hh h0 h1 (by omega) h3 hcell _ _ hc
    refine cross_leaf d (n + 1) pos g w hglt K h0 (by omega) ?_ ?_
    all_goals
      rw [e2, hK]
      rcases nine hk with rfl | rfl | rfl | rfl | rfl | rfl | rfl | rfl | rfl <;> first | rfl | omega

set_option maxHeartbeats 2000000 in
theorem zz_any (g : Nat) (x y : Bool) (w : World) (hc : Calls Try.prog 12 #[.pointer (some ⟨g, 0, none⟩)] w fun e w' => Pairs x y w w' e) :
    Calls Try.prog 7 #[.pointer (some ⟨g, 0, none⟩)] w fun e w' => e = .returned (.tuple #[.bool x, .bool y]) ∧ Below w.heap.size w w' := by
  have HC : Hid (Calls Try.prog 12 #[.pointer (some ⟨g, 0, none⟩)] w fun e w' => Pairs x y w w' e) := hc
  clear hc
  go_enter Try.func7, Try.ntmps7
  go_wp2_with (go_at_call 12; refine HC.out.mono ?_; rintro e w1 ⟨rfl, hb⟩; have HB : Hid (Below w.heap.size w w1) := hb; clear hb)
  go_quiet (fail)
  go_wp2_with fail
  go_ret2
  refine ⟨rfl, ?_⟩
  repeat (first | exact HB.out | apply Below.drew | (refine below_drewN ?_ _) | (refine Below.setCell ?_ HB.out.size _) | (refine Below.alloc ?_ HB.out.size _))
theorem bytes_ok (a : Option Addr) (l c : Nat) (hl : l ≤ maxLen) (w : World) : Calls Try.prog 10 #[.slice a l c] w fun e w' => (∃ b, e = .returned (.bool b)) ∧ w' = w := by
  unfold maxLen at hl
  by_cases h : l ≤ 1048576
  · go_enter Try.func10, Try.ntmps10
    go_wp2
    go_ret
    exact ⟨⟨_, rfl⟩, rfl⟩
  · go_enter Try.func10, Try.ntmps10
    go_wp2
    go_ret
    exact ⟨⟨_, rfl⟩, rfl⟩
end Go.Proofs.Qxb6600465a.Ere

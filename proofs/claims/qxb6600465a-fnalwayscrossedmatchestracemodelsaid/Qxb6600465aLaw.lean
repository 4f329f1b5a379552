import Derived.Test.Qxb6600465aCrossAll
import Derived.OpenShut
namespace Go.Proofs.Qxb6600465a.Ere
open Go.RowKit

/-- A slice of bytes that came in: its bytes lie there. -/
theorem code_row {w : World} {x : Addr} {len cap : Nat} {zs : List Int} (hl : len ≤ cap) (hz : zs.length = cap) (hc : ∀ i, i < zs.length → w.cell? (x.add i) = some (.int .u8 (zs.getD i 0))) : Code' w (some x) (zs.take len) := by
  by_cases h : len = 0
  · exact .inl (by simp [h])
  · refine .inr ⟨x, rfl, ?_, fun i hi => ?_⟩
    · have := World.block_lt_of_cell? _ _ (hc 0 (by omega))
      rwa [show (x.add 0).block = x.block from rfl] at this
    · have hi' : i < len := by have := hi; simp at this; omega
      rw [hc i (by omega)]
      congr 2
      simp [List.getD, hi']

set_option maxHeartbeats 4000000 in
theorem law (a : Option Addr) (d : List Int) (cap : Nat) (w : World) (hm : d.length ≤ maxLen) (hby : ∀ i, 0 ≤ d.getD i 0 ∧ d.getD i 0 ≤ 255) (hc : Code' w a d) :
    Calls Try.prog 4 #[.slice a d.length cap] w fun e w' => e = .returned (.bool true) ∧ Below w.heap.size w w' := by
  have HBy : Hid (Calls Try.prog 10 #[.slice a d.length cap] w fun e w' => (∃ b, e = .returned (.bool b)) ∧ w' = w) := bytes_ok a d.length cap hm w
  have HM : Hid (d.length ≤ maxLen) := hm
  unfold maxLen at hm
  have hm2 : (d.length : Int) ≤ 9223372036854775807 := by omega
  by_cases hlen : (d.length : Int) ≤ 65536
  · have HD : Hid (Calls Try.prog 6 #[.slice a d.length cap, .int .i64 0, .int .i64 0] w fun e w' => Decoded d 48 0 w w' e) := decode_any d (by omega) hby 48 0 0 a cap w rfl hc (Nat.zero_le _)
    obtain ⟨T, hT⟩ : ∃ T, tr d 48 0 = T := ⟨_, rfl⟩
    obtain ⟨X, hX⟩ : ∃ X, cr d 2 48 0 = X := ⟨_, rfl⟩
    obtain ⟨Y, hY⟩ : ∃ Y, cr d 3 48 0 = Y := ⟨_, rfl⟩
    have hsay := tr_says d 48 0
    rw [hT, hX, hY] at hsay
    have HS : Hid (Says T X Y) := hsay
    have HT : Hid (tr d 48 0 = T) := hT
    have HX : Hid (cr d 2 48 0 = X ∧ cr d 3 48 0 = Y) := ⟨hX, hY⟩
    have hb1 : (0 : Int) ≤ T := hsay.1
    have hb2 : T ≤ 15 := hsay.2.1
    clear hc hby hT hX hY hsay
    go_enter Try.func4, Try.ntmps4
    go_wp2_with (go_at_call 10; refine HBy.out.mono ?_; rintro e w1 ⟨⟨b, rfl⟩, hw⟩; replace hw := hw.symm; subst hw; cases b)
    · go_ret
      exact ⟨rfl, Below.refl _ _⟩
    go_wp2_with (first | (go_at_call 6; refine HD.out.mono ?_; rintro e wd ⟨g, rfl, ht, hb⟩; have HTr : Hid (Tree NdT d wd 48 w.heap.size wd.heap.size g 0) := ht; have HB : Hid (Below w.heap.size w wd) := hb; clear ht hb) | (go_at_call 11; refine (traces_any d 48 0 g _ _ wd HTr.out).mono ?_; rintro e w2 ⟨rfl, hw⟩; replace hw := hw.symm; subst hw; rw [HT.out]) | (go_at_call 8; refine (toEre_any d 48 0 g _ _ wd (Nat.le_refl _) HTr.out).mono ?_; rintro e we ⟨ge, rfl, hte, hbe⟩; have HTe : Hid (Tree NdE d we 48 wd.heap.size we.heap.size ge 0) := hte; have HBe : Hid (Below wd.heap.size wd we) := hbe; clear hte hbe) | (go_at_call 7; refine (zz_any ge X Y we (by have := cross_any d 48 0 ge _ _ we (Nat.le_refl _) HTe.out; rw [HX.out.1, HX.out.2] at this; exact this)).mono ?_; rintro e wz ⟨rfl, hbz⟩; have HBz : Hid (Below we.heap.size we wz) := hbz; clear hbz))
    all_goals
      have hbel : Below w.heap.size w wz := HB.out.trans ((HBe.out.mono HB.out.size).trans (HBz.out.mono (Nat.le_trans HB.out.size HBe.out.size)))
      rename_i hx
      first
        | exact absurd (show X = (bits BinOp.and IntKind.i64 T 5 == 0) from HS.out.2.2.1.symm) hx
        | (go_ret
           refine ⟨?_, hbel⟩
           have hy : (bits BinOp.and IntKind.i64 T 3 == 0) = Y := HS.out.2.2.2
           simp [hy])
  · clear hc hby
    go_enter Try.func4, Try.ntmps4
    go_wp2_with (go_at_call 10; refine HBy.out.mono ?_; rintro e w1 ⟨⟨b, rfl⟩, hw⟩; replace hw := hw.symm; subst hw; cases b)
    · go_ret
      exact ⟨rfl, Below.refl _ _⟩
    · go_wp2_with fail
      go_ret
      exact ⟨rfl, Below.refl _ _⟩
end Go.Proofs.Qxb6600465a.Ere

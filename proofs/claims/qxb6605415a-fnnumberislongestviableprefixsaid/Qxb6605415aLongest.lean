import Derived.Test.Qxb6605415aModel
namespace Go.Proofs.Qxb6605415a.Longest
open Go.RowKit Go.Proofs.Qxb6605415a.Num Go.Proofs.Qxb6605415a.Scan Go.Proofs.Qxb6605415a.Dec Go.Proofs.Qxb6605415a.Reads Go.Proofs.Qxb6605415a.Json Go.Proofs.Qxb6605415a.Model

theorem bytes6_any (a : Option Addr) (len cap : Nat) (p : Int) (h : len ≤ maxLen) (w : World) :
    Calls Try.prog 6 #[.slice a len cap, .int .i64 p] w fun e w' => ∃ b : Bool, e = .returned (.bool b) ∧ w' = w := by
  unfold maxLen at h
  go_enter Try.func6, Try.ntmps6
  go_wp2
  all_goals (go_ret; exact ⟨_, rfl, rfl⟩)

set_option maxHeartbeats 1000000 in
theorem longest_nil (p : Int) (w : World) :
    Calls Try.prog 3 #[.slice none 0 0, .int .i64 p] w fun e w' => e = .returned (.bool true) ∧ Below w.heap.size w w' := by
  have hnil := fun (wz : World) (aa : Option Addr) (nn cc : Nat) => run_neq_slice_nil_any (P := Try.prog) wz 22 5 aa nn cc 0 0 Try.underlying22
  go_enter Try.func3, Try.ntmps3
  go_wp2_with fail
  refine (bytes6_any _ _ _ _ (by unfold maxLen; omega) _).mono ?_
  rintro e w' ⟨b, rfl, hw⟩
  subst hw
  cases b
  · go_wp2
    go_ret
    exact ⟨rfl, Below.refl _ _⟩
  by_cases hp : p < 0
  · go_wp2
    go_ret
    exact ⟨rfl, Below.refl _ _⟩
  obtain ⟨P, rfl⟩ := Int.eq_ofNat_of_zero_le (show 0 ≤ p by omega)
  go_wp2_with fail
  refine (zzNumber_nil P _).mono ?_
  rintro e w1 ⟨rfl, hb1⟩
  go_wp2_with fail
  refine (model_nil P _).mono ?_
  rintro e w2 ⟨rfl, hw⟩
  subst hw
  go_wp2
  go_ret
  exact ⟨rfl, hb1⟩

set_option maxHeartbeats 1000000 in
theorem longest_some (ad : Addr) (l : List Int) (cap : Nat) (p : Int) (hp1 : p ≤ 9223372036854775807) (hm : l.length ≤ maxLen) (w : World) (hc : Came w (some ad) l cap) :
    Calls Try.prog 3 #[.slice (some ad) l.length cap, .int .i64 p] w fun e w' => e = .returned (.bool true) ∧ Below w.heap.size w w' := by
  have hm2 := hm
  unfold maxLen at hm2
  have HC : Hid (Came w (some ad) l cap) := hc
  clear hc
  have hnil := fun (wz : World) (aa : Option Addr) (nn cc : Nat) => run_neq_slice_nil_any (P := Try.prog) wz 22 5 aa nn cc 0 0 Try.underlying22
  go_enter Try.func3, Try.ntmps3
  go_wp2_with fail
  refine (bytes6_any _ _ _ _ hm _).mono ?_
  rintro e w' ⟨b, rfl, hw⟩
  subst hw
  cases b
  · go_wp2
    go_ret
    exact ⟨rfl, Below.refl _ _⟩
  by_cases hl : 4096 < l.length
  · go_wp2
    go_ret
    exact ⟨rfl, Below.refl _ _⟩
  by_cases hp : p < 0
  · go_wp2
    go_ret
    exact ⟨rfl, Below.refl _ _⟩
  obtain ⟨P, rfl⟩ := Int.eq_ofNat_of_zero_le (show 0 ≤ p by omega)
  obtain ⟨i0, hi, hz0, hz1, hz2⟩ := info_parts info5
  have HI : Hid (Try.prog.info? 5 = some i0 ∧ i0.zero = some (.int .u8 0) ∧ i0.size = 1 ∧ i0.bytes = 1) := ⟨hi, hz0, hz1, hz2⟩
  have hb1 : i0.bytes * l.length ≤ 281474976710656 := by rw [hz2]; omega
  clear hi hz0 hz1 hz2
  go_upto_region 9 with (at_make; refine wpList_make_full _ rfl _ _ 22 rfl w'.heap.size 5 i0 (.int .u8 0) 1 Try.underlying22 HI.out.1 HI.out.2.1 HI.out.2.2.1 _ _ _ _ l.length rfl rfl rfl rfl hb1 hm (Nat.le_refl _) ?_; intro w1 hown1 hgrow1)
  iterate 7 go_step
  refine wpList_copy_splice rfl _ _ 22 22 rfl 5 Try.underlying22 (by kernel_rfl) _ _ _ _ _ _ rfl rfl w'.heap.size 0 _ 5 (full_block hown1) (l.map (Value.int .u8)) (by rw [List.length_map]; exact (Nat.min_self _).symm) (fun _ => ⟨rfl, ad, rfl, came_grown HC.out hgrow1⟩) (by rw [List.length_map, made_len]; omega) (ints_oneCell _ _) w'.heap.size w' (Below.grown (Below.refl _ _) hgrow1 (Nat.le_refl _) (by intro k hk; cases hk)) (Nat.le_refl _) ?_
  intro w2 H2 hb2
  have HO : Hid (Own w2 w'.heap.size (.slice (some ⟨w'.heap.size, 0, none⟩) l.length l.length) l) := own_of_block rfl (Nat.le_refl _) hm (by rw [H2.out, splice_full _ _ (by rw [List.length_map, made_len]; omega)])
  have HY : Hid (Bytes w2 w'.heap.size 0 l) := bytes_own rfl HO.out
  have hlt2 := own_lt HO.out w'.heap.size rfl
  clear hown1 hgrow1 H2
  go_wp2_with fail
  refine (zzNumber_any w'.heap.size 0 l.length P l (by omega) (by omega) _ HY.out hlt2).mono ?_
  rintro e w3 ⟨rfl, hb3⟩
  have HY3 : Hid (Bytes w3 w'.heap.size 0 l) := bytes_below HY.out hlt2 hb3
  have hlt3 : w'.heap.size < w3.heap.size := Nat.lt_of_lt_of_le hlt2 hb3.size
  go_wp2_with fail
  refine (model_any w'.heap.size 0 l.length P l (by omega) (Nat.le_refl _) (by omega) _ HY3.out hlt3).mono ?_
  rintro e w4 ⟨rfl, hb4⟩
  have HG : Hid (Below w'.heap.size w' w4) := (hb2.trans (hb3.mono hb2.size)).trans (hb4.mono (Nat.le_of_lt hlt3))
  clear hb2 hb3 hb4
  generalize numOk l P = X
  generalize numEnd l P = Y
  cases X
  all_goals
    go_wp2
    go_ret
    exact ⟨by simp, HG.out⟩
end Go.Proofs.Qxb6605415a.Longest

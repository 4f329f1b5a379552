import Derived.Test.Qxb6600465aTrace
import Derived.WalkKit
import Derived.WalkSpells
import Derived.WalkLawsBesides
import Derived.Outline
import Derived.Handy
import Derived.RowKit3
import Derived.Below
namespace Go.Proofs.Qxb6600465a.Ere
open Go.RowKit

theorem ret_int {k : IntKind} {a b : Int} (h : a = b) : Ending.returned (.int k a) = .returned (.int k b) := by rw [h]
theorem ou_hit {a b : Int} {i : Nat} (h : hasB a i = true) : ou a b (i + 1) = inn b i 4 (ou a b i) := by rw [ou, if_pos h]
theorem ou_miss {a b : Int} {i : Nat} (h : hasB a i = false) : ou a b (i + 1) = ou a b i := by rw [ou, h]; rfl
theorem inn_hit {b o : Int} {i j : Nat} (h : hasB b j = true) : inn b i (j + 1) o = bits .or .i64 (inn b i j o) (2 ^ (i ||| j)) := by rw [inn, if_pos h]
theorem inn_miss {b o : Int} {i j : Nat} (h : hasB b j = false) : inn b i (j + 1) o = inn b i j o := by rw [inn, h]; rfl
theorem has0 (m : Int) : hasB m 0 = !(bits .and .i64 m 1 == 0) := rfl
theorem has1 (m : Int) : hasB m 1 = !(bits .and .i64 m 2 == 0) := rfl
theorem has2 (m : Int) : hasB m 2 = !(bits .and .i64 m 4 == 0) := rfl
theorem has3 (m : Int) : hasB m 3 = !(bits .and .i64 m 8 == 0) := rfl
theorem orn00 : bits .or .i64 0 0 = 0 := by decide +kernel
theorem orn01 : bits .or .i64 0 1 = 1 := by decide +kernel
theorem orn02 : bits .or .i64 0 2 = 2 := by decide +kernel
theorem orn03 : bits .or .i64 0 3 = 3 := by decide +kernel
theorem orn10 : bits .or .i64 1 0 = 1 := by decide +kernel
theorem orn11 : bits .or .i64 1 1 = 1 := by decide +kernel
theorem orn12 : bits .or .i64 1 2 = 3 := by decide +kernel
theorem orn13 : bits .or .i64 1 3 = 3 := by decide +kernel
theorem orn20 : bits .or .i64 2 0 = 2 := by decide +kernel
theorem orn21 : bits .or .i64 2 1 = 3 := by decide +kernel
theorem orn22 : bits .or .i64 2 2 = 2 := by decide +kernel
theorem orn23 : bits .or .i64 2 3 = 3 := by decide +kernel
theorem orn30 : bits .or .i64 3 0 = 3 := by decide +kernel
theorem orn31 : bits .or .i64 3 1 = 3 := by decide +kernel
theorem orn32 : bits .or .i64 3 2 = 3 := by decide +kernel
theorem orn33 : bits .or .i64 3 3 = 3 := by decide +kernel

set_option maxHeartbeats 8000000 in
theorem joinAll_any (a b : Int) (w : World) :
    Calls Try.prog 14 #[.int .i64 a, .int .i64 b] w fun e w' => e = .returned (.int .i64 (jn a b)) ∧ w' = w := by
  go_enter Try.func14, Try.ntmps14
  go_wp2
  go_loop [5, 6, 7] (fun v5 v6 _ => ∃ i : Nat, i ≤ 4 ∧ v6 = .int .i64 i ∧ v5 = .int .i64 (ou a b i)) (fun _ v _ => 4 - (intOf v).toNat)
  case atStart => exact ⟨0, by omega, rfl, rfl⟩
  case round =>
    obtain ⟨i, hi, rfl, rfl⟩ := hrel
    have hi5 : i = 0 ∨ i = 1 ∨ i = 2 ∨ i = 3 ∨ i = 4 := by omega
    rcases hi5 with rfl | rfl | rfl | rfl | rfl
    · obtain ⟨o, ho⟩ : ∃ o, ou a b 0 = o := ⟨_, rfl⟩
      have HO : Hid (ou a b 0 = o) := ho
      rw [ho]
      clear ho
      cases h : (bits .and .i64 a 1 == 0)
      · have E : Hid (ou a b 1 = inn b 0 4 o) := by show ou a b 1 = _; rw [ou_hit (by rw [has0, h]; rfl), HO.out]
        go_wp2
        go_loop [5, 7] (fun v5 v7 => ∃ j : Nat, j ≤ 4 ∧ v7 = .int .i64 j ∧ v5 = .int .i64 (inn b 0 j o)) (fun _ v => 4 - (intOf v).toNat)
        case atStart => exact ⟨0, by omega, rfl, rfl⟩
        case round =>
          obtain ⟨j, hj, rfl, rfl⟩ := hrel
          have hj5 : j = 0 ∨ j = 1 ∨ j = 2 ∨ j = 3 ∨ j = 4 := by omega
          rcases hj5 with rfl | rfl | rfl | rfl | rfl
          · have hor := orn00
            obtain ⟨p, hp⟩ : ∃ p, inn b 0 0 o = p := ⟨_, rfl⟩
            have HP : Hid (inn b 0 0 o = p) := hp
            rw [hp]
            clear hp
            cases h2 : (bits .and .i64 b 1 == 0)
            · have h3 : (bits .and .i64 b 1 != 0) = true := by rw [bne, h2]; rfl
              have E2 : Hid (inn b 0 1 o = bits .or .i64 p 1) := by show inn b 0 1 o = _; rw [inn_hit (by rw [has0, h2]; rfl), HP.out]; rfl
              go_wp2
              go_round
              case rel => exact ⟨1, by omega, by go_num, by rw [E2.out]⟩
              case measure => simp [intOf]
            · have h3 : (bits .and .i64 b 1 != 0) = false := by rw [bne, h2]; rfl
              have E2 : Hid (inn b 0 1 o = p) := by show inn b 0 1 o = _; rw [inn_miss (by rw [has0, h2]; rfl), HP.out]
              go_wp2
              go_round
              case rel => exact ⟨1, by omega, by go_num, by rw [E2.out]⟩
              case measure => simp [intOf]
          · have hor := orn01
            obtain ⟨p, hp⟩ : ∃ p, inn b 0 1 o = p := ⟨_, rfl⟩
            have HP : Hid (inn b 0 1 o = p) := hp
            rw [hp]
            clear hp
            cases h2 : (bits .and .i64 b 2 == 0)
            · have h3 : (bits .and .i64 b 2 != 0) = true := by rw [bne, h2]; rfl
              have E2 : Hid (inn b 0 2 o = bits .or .i64 p 2) := by show inn b 0 2 o = _; rw [inn_hit (by rw [has1, h2]; rfl), HP.out]; rfl
              go_wp2
              go_round
              case rel => exact ⟨2, by omega, by go_num, by rw [E2.out]⟩
              case measure => simp [intOf]
            · have h3 : (bits .and .i64 b 2 != 0) = false := by rw [bne, h2]; rfl
              have E2 : Hid (inn b 0 2 o = p) := by show inn b 0 2 o = _; rw [inn_miss (by rw [has1, h2]; rfl), HP.out]
              go_wp2
              go_round
              case rel => exact ⟨2, by omega, by go_num, by rw [E2.out]⟩
              case measure => simp [intOf]
          · have hor := orn02
            obtain ⟨p, hp⟩ : ∃ p, inn b 0 2 o = p := ⟨_, rfl⟩
            have HP : Hid (inn b 0 2 o = p) := hp
            rw [hp]
            clear hp
            cases h2 : (bits .and .i64 b 4 == 0)
            · have h3 : (bits .and .i64 b 4 != 0) = true := by rw [bne, h2]; rfl
              have E2 : Hid (inn b 0 3 o = bits .or .i64 p 4) := by show inn b 0 3 o = _; rw [inn_hit (by rw [has2, h2]; rfl), HP.out]; rfl
              go_wp2
              go_round
              case rel => exact ⟨3, by omega, by go_num, by rw [E2.out]⟩
              case measure => simp [intOf]
            · have h3 : (bits .and .i64 b 4 != 0) = false := by rw [bne, h2]; rfl
              have E2 : Hid (inn b 0 3 o = p) := by show inn b 0 3 o = _; rw [inn_miss (by rw [has2, h2]; rfl), HP.out]
              go_wp2
              go_round
              case rel => exact ⟨3, by omega, by go_num, by rw [E2.out]⟩
              case measure => simp [intOf]
          · have hor := orn03
            obtain ⟨p, hp⟩ : ∃ p, inn b 0 3 o = p := ⟨_, rfl⟩
            have HP : Hid (inn b 0 3 o = p) := hp
            rw [hp]
            clear hp
            cases h2 : (bits .and .i64 b 8 == 0)
            · have h3 : (bits .and .i64 b 8 != 0) = true := by rw [bne, h2]; rfl
              have E2 : Hid (inn b 0 4 o = bits .or .i64 p 8) := by show inn b 0 4 o = _; rw [inn_hit (by rw [has3, h2]; rfl), HP.out]; rfl
              go_wp2
              go_round
              case rel => exact ⟨4, by omega, by go_num, by rw [E2.out]⟩
              case measure => simp [intOf]
            · have h3 : (bits .and .i64 b 8 != 0) = false := by rw [bne, h2]; rfl
              have E2 : Hid (inn b 0 4 o = p) := by show inn b 0 4 o = _; rw [inn_miss (by rw [has3, h2]; rfl), HP.out]
              go_wp2
              go_round
              case rel => exact ⟨4, by omega, by go_num, by rw [E2.out]⟩
              case measure => simp [intOf]
          · go_wp2
            go_round
            case rel => exact ⟨1, by omega, by go_num, by rw [E.out]⟩
            case measure => simp [intOf]
      · have E : Hid (ou a b 1 = o) := by show ou a b 1 = _; rw [ou_miss (by rw [has0, h]; rfl), HO.out]
        go_wp2
        go_round
        case rel => exact ⟨1, by omega, by go_num, by rw [E.out]⟩
        case measure => simp [intOf]
    · obtain ⟨o, ho⟩ : ∃ o, ou a b 1 = o := ⟨_, rfl⟩
      have HO : Hid (ou a b 1 = o) := ho
      rw [ho]
      clear ho
      cases h : (bits .and .i64 a 2 == 0)
      · have E : Hid (ou a b 2 = inn b 1 4 o) := by show ou a b 2 = _; rw [ou_hit (by rw [has1, h]; rfl), HO.out]
        go_wp2
        go_loop [5, 7] (fun v5 v7 => ∃ j : Nat, j ≤ 4 ∧ v7 = .int .i64 j ∧ v5 = .int .i64 (inn b 1 j o)) (fun _ v => 4 - (intOf v).toNat)
        case atStart => exact ⟨0, by omega, rfl, rfl⟩
        case round =>
          obtain ⟨j, hj, rfl, rfl⟩ := hrel
          have hj5 : j = 0 ∨ j = 1 ∨ j = 2 ∨ j = 3 ∨ j = 4 := by omega
          rcases hj5 with rfl | rfl | rfl | rfl | rfl
          · have hor := orn10
            obtain ⟨p, hp⟩ : ∃ p, inn b 1 0 o = p := ⟨_, rfl⟩
            have HP : Hid (inn b 1 0 o = p) := hp
            rw [hp]
            clear hp
            cases h2 : (bits .and .i64 b 1 == 0)
            · have h3 : (bits .and .i64 b 1 != 0) = true := by rw [bne, h2]; rfl
              have E2 : Hid (inn b 1 1 o = bits .or .i64 p 2) := by show inn b 1 1 o = _; rw [inn_hit (by rw [has0, h2]; rfl), HP.out]; rfl
              go_wp2
              go_round
              case rel => exact ⟨1, by omega, by go_num, by rw [E2.out]⟩
              case measure => simp [intOf]
            · have h3 : (bits .and .i64 b 1 != 0) = false := by rw [bne, h2]; rfl
              have E2 : Hid (inn b 1 1 o = p) := by show inn b 1 1 o = _; rw [inn_miss (by rw [has0, h2]; rfl), HP.out]
              go_wp2
              go_round
              case rel => exact ⟨1, by omega, by go_num, by rw [E2.out]⟩
              case measure => simp [intOf]
          · have hor := orn11
            obtain ⟨p, hp⟩ : ∃ p, inn b 1 1 o = p := ⟨_, rfl⟩
            have HP : Hid (inn b 1 1 o = p) := hp
            rw [hp]
            clear hp
            cases h2 : (bits .and .i64 b 2 == 0)
            · have h3 : (bits .and .i64 b 2 != 0) = true := by rw [bne, h2]; rfl
              have E2 : Hid (inn b 1 2 o = bits .or .i64 p 2) := by show inn b 1 2 o = _; rw [inn_hit (by rw [has1, h2]; rfl), HP.out]; rfl
              go_wp2
              go_round
              case rel => exact ⟨2, by omega, by go_num, by rw [E2.out]⟩
              case measure => simp [intOf]
            · have h3 : (bits .and .i64 b 2 != 0) = false := by rw [bne, h2]; rfl
              have E2 : Hid (inn b 1 2 o = p) := by show inn b 1 2 o = _; rw [inn_miss (by rw [has1, h2]; rfl), HP.out]
              go_wp2
              go_round
              case rel => exact ⟨2, by omega, by go_num, by rw [E2.out]⟩
              case measure => simp [intOf]
          · have hor := orn12
            obtain ⟨p, hp⟩ : ∃ p, inn b 1 2 o = p := ⟨_, rfl⟩
            have HP : Hid (inn b 1 2 o = p) := hp
            rw [hp]
            clear hp
            cases h2 : (bits .and .i64 b 4 == 0)
            · have h3 : (bits .and .i64 b 4 != 0) = true := by rw [bne, h2]; rfl
              have E2 : Hid (inn b 1 3 o = bits .or .i64 p 8) := by show inn b 1 3 o = _; rw [inn_hit (by rw [has2, h2]; rfl), HP.out]; rfl
              go_wp2
              go_round
              case rel => exact ⟨3, by omega, by go_num, by rw [E2.out]⟩
              case measure => simp [intOf]
            · have h3 : (bits .and .i64 b 4 != 0) = false := by rw [bne, h2]; rfl
              have E2 : Hid (inn b 1 3 o = p) := by show inn b 1 3 o = _; rw [inn_miss (by rw [has2, h2]; rfl), HP.out]
              go_wp2
              go_round
              case rel => exact ⟨3, by omega, by go_num, by rw [E2.out]⟩
              case measure => simp [intOf]
          · have hor := orn13
            obtain ⟨p, hp⟩ : ∃ p, inn b 1 3 o = p := ⟨_, rfl⟩
            have HP : Hid (inn b 1 3 o = p) := hp
            rw [hp]
            clear hp
            cases h2 : (bits .and .i64 b 8 == 0)
            · have h3 : (bits .and .i64 b 8 != 0) = true := by rw [bne, h2]; rfl
              have E2 : Hid (inn b 1 4 o = bits .or .i64 p 8) := by show inn b 1 4 o = _; rw [inn_hit (by rw [has3, h2]; rfl), HP.out]; rfl
              go_wp2
              go_round
              case rel => exact ⟨4, by omega, by go_num, by rw [E2.out]⟩
              case measure => simp [intOf]
            · have h3 : (bits .and .i64 b 8 != 0) = false := by rw [bne, h2]; rfl
              have E2 : Hid (inn b 1 4 o = p) := by show inn b 1 4 o = _; rw [inn_miss (by rw [has3, h2]; rfl), HP.out]
              go_wp2
              go_round
              case rel => exact ⟨4, by omega, by go_num, by rw [E2.out]⟩
              case measure => simp [intOf]
          · go_wp2
            go_round
            case rel => exact ⟨2, by omega, by go_num, by rw [E.out]⟩
            case measure => simp [intOf]
      · have E : Hid (ou a b 2 = o) := by show ou a b 2 = _; rw [ou_miss (by rw [has1, h]; rfl), HO.out]
        go_wp2
        go_round
        case rel => exact ⟨2, by omega, by go_num, by rw [E.out]⟩
        case measure => simp [intOf]
    · obtain ⟨o, ho⟩ : ∃ o, ou a b 2 = o := ⟨_, rfl⟩
      have HO : Hid (ou a b 2 = o) := ho
      rw [ho]
      clear ho
      cases h : (bits .and .i64 a 4 == 0)
      · have E : Hid (ou a b 3 = inn b 2 4 o) := by show ou a b 3 = _; rw [ou_hit (by rw [has2, h]; rfl), HO.out]
        go_wp2
        go_loop [5, 7] (fun v5 v7 => ∃ j : Nat, j ≤ 4 ∧ v7 = .int .i64 j ∧ v5 = .int .i64 (inn b 2 j o)) (fun _ v => 4 - (intOf v).toNat)
        case atStart => exact ⟨0, by omega, rfl, rfl⟩
        case round =>
          obtain ⟨j, hj, rfl, rfl⟩ := hrel
          have hj5 : j = 0 ∨ j = 1 ∨ j = 2 ∨ j = 3 ∨ j = 4 := by omega
          rcases hj5 with rfl | rfl | rfl | rfl | rfl
          · have hor := orn20
            obtain ⟨p, hp⟩ : ∃ p, inn b 2 0 o = p := ⟨_, rfl⟩
            have HP : Hid (inn b 2 0 o = p) := hp
            rw [hp]
            clear hp
            cases h2 : (bits .and .i64 b 1 == 0)
            · have h3 : (bits .and .i64 b 1 != 0) = true := by rw [bne, h2]; rfl
              have E2 : Hid (inn b 2 1 o = bits .or .i64 p 4) := by show inn b 2 1 o = _; rw [inn_hit (by rw [has0, h2]; rfl), HP.out]; rfl
              go_wp2
              go_round
              case rel => exact ⟨1, by omega, by go_num, by rw [E2.out]⟩
              case measure => simp [intOf]
            · have h3 : (bits .and .i64 b 1 != 0) = false := by rw [bne, h2]; rfl
              have E2 : Hid (inn b 2 1 o = p) := by show inn b 2 1 o = _; rw [inn_miss (by rw [has0, h2]; rfl), HP.out]
              go_wp2
              go_round
              case rel => exact ⟨1, by omega, by go_num, by rw [E2.out]⟩
              case measure => simp [intOf]
          · have hor := orn21
            obtain ⟨p, hp⟩ : ∃ p, inn b 2 1 o = p := ⟨_, rfl⟩
            have HP : Hid (inn b 2 1 o = p) := hp
            rw [hp]
            clear hp
            cases h2 : (bits .and .i64 b 2 == 0)
            · have h3 : (bits .and .i64 b 2 != 0) = true := by rw [bne, h2]; rfl
              have E2 : Hid (inn b 2 2 o = bits .or .i64 p 8) := by show inn b 2 2 o = _; rw [inn_hit (by rw [has1, h2]; rfl), HP.out]; rfl
              go_wp2
              go_round
              case rel => exact ⟨2, by omega, by go_num, by rw [E2.out]⟩
              case measure => simp [intOf]
            · have h3 : (bits .and .i64 b 2 != 0) = false := by rw [bne, h2]; rfl
              have E2 : Hid (inn b 2 2 o = p) := by show inn b 2 2 o = _; rw [inn_miss (by rw [has1, h2]; rfl), HP.out]
              go_wp2
              go_round
              case rel => exact ⟨2, by omega, by go_num, by rw [E2.out]⟩
              case measure => simp [intOf]
          · have hor := orn22
            obtain ⟨p, hp⟩ : ∃ p, inn b 2 2 o = p := ⟨_, rfl⟩
            have HP : Hid (inn b 2 2 o = p) := hp
            rw [hp]
            clear hp
            cases h2 : (bits .and .i64 b 4 == 0)
            · have h3 : (bits .and .i64 b 4 != 0) = true := by rw [bne, h2]; rfl
              have E2 : Hid (inn b 2 3 o = bits .or .i64 p 4) := by show inn b 2 3 o = _; rw [inn_hit (by rw [has2, h2]; rfl), HP.out]; rfl
              go_wp2
              go_round
              case rel => exact ⟨3, by omega, by go_num, by rw [E2.out]⟩
              case measure => simp [intOf]
            · have h3 : (bits .and .i64 b 4 != 0) = false := by rw [bne, h2]; rfl
              have E2 : Hid (inn b 2 3 o = p) := by show inn b 2 3 o = _; rw [inn_miss (by rw [has2, h2]; rfl), HP.out]
              go_wp2
              go_round
              case rel => exact ⟨3, by omega, by go_num, by rw [E2.out]⟩
              case measure => simp [intOf]
          · have hor := orn23
            obtain ⟨p, hp⟩ : ∃ p, inn b 2 3 o = p := ⟨_, rfl⟩
            have HP : Hid (inn b 2 3 o = p) := hp
            rw [hp]
            clear hp
            cases h2 : (bits .and .i64 b 8 == 0)
            · have h3 : (bits .and .i64 b 8 != 0) = true := by rw [bne, h2]; rfl
              have E2 : Hid (inn b 2 4 o = bits .or .i64 p 8) := by show inn b 2 4 o = _; rw [inn_hit (by rw [has3, h2]; rfl), HP.out]; rfl
              go_wp2
              go_round
              case rel => exact ⟨4, by omega, by go_num, by rw [E2.out]⟩
              case measure => simp [intOf]
            · have h3 : (bits .and .i64 b 8 != 0) = false := by rw [bne, h2]; rfl
              have E2 : Hid (inn b 2 4 o = p) := by show inn b 2 4 o = _; rw [inn_miss (by rw [has3, h2]; rfl), HP.out]
              go_wp2
              go_round
              case rel => exact ⟨4, by omega, by go_num, by rw [E2.out]⟩
              case measure => simp [intOf]
          · go_wp2
            go_round
            case rel => exact ⟨3, by omega, by go_num, by rw [E.out]⟩
            case measure => simp [intOf]
      · have E : Hid (ou a b 3 = o) := by show ou a b 3 = _; rw [ou_miss (by rw [has2, h]; rfl), HO.out]
        go_wp2
        go_round
        case rel => exact ⟨3, by omega, by go_num, by rw [E.out]⟩
        case measure => simp [intOf]
    · obtain ⟨o, ho⟩ : ∃ o, ou a b 3 = o := ⟨_, rfl⟩
      have HO : Hid (ou a b 3 = o) := ho
      rw [ho]
      clear ho
      cases h : (bits .and .i64 a 8 == 0)
      · have E : Hid (ou a b 4 = inn b 3 4 o) := by show ou a b 4 = _; rw [ou_hit (by rw [has3, h]; rfl), HO.out]
        go_wp2
        go_loop [5, 7] (fun v5 v7 => ∃ j : Nat, j ≤ 4 ∧ v7 = .int .i64 j ∧ v5 = .int .i64 (inn b 3 j o)) (fun _ v => 4 - (intOf v).toNat)
        case atStart => exact ⟨0, by omega, rfl, rfl⟩
        case round =>
          obtain ⟨j, hj, rfl, rfl⟩ := hrel
          have hj5 : j = 0 ∨ j = 1 ∨ j = 2 ∨ j = 3 ∨ j = 4 := by omega
          rcases hj5 with rfl | rfl | rfl | rfl | rfl
          · have hor := orn30
            obtain ⟨p, hp⟩ : ∃ p, inn b 3 0 o = p := ⟨_, rfl⟩
            have HP : Hid (inn b 3 0 o = p) := hp
            rw [hp]
            clear hp
            cases h2 : (bits .and .i64 b 1 == 0)
            · have h3 : (bits .and .i64 b 1 != 0) = true := by rw [bne, h2]; rfl
              have E2 : Hid (inn b 3 1 o = bits .or .i64 p 8) := by show inn b 3 1 o = _; rw [inn_hit (by rw [has0, h2]; rfl), HP.out]; rfl
              go_wp2
              go_round
              case rel => exact ⟨1, by omega, by go_num, by rw [E2.out]⟩
              case measure => simp [intOf]
            · have h3 : (bits .and .i64 b 1 != 0) = false := by rw [bne, h2]; rfl
              have E2 : Hid (inn b 3 1 o = p) := by show inn b 3 1 o = _; rw [inn_miss (by rw [has0, h2]; rfl), HP.out]
              go_wp2
              go_round
              case rel => exact ⟨1, by omega, by go_num, by rw [E2.out]⟩
              case measure => simp [intOf]
          · have hor := orn31
            obtain ⟨p, hp⟩ : ∃ p, inn b 3 1 o = p := ⟨_, rfl⟩
            have HP : Hid (inn b 3 1 o = p) := hp
            rw [hp]
            clear hp
            cases h2 : (bits .and .i64 b 2 == 0)
            · have h3 : (bits .and .i64 b 2 != 0) = true := by rw [bne, h2]; rfl
              have E2 : Hid (inn b 3 2 o = bits .or .i64 p 8) := by show inn b 3 2 o = _; rw [inn_hit (by rw [has1, h2]; rfl), HP.out]; rfl
              go_wp2
              go_round
              case rel => exact ⟨2, by omega, by go_num, by rw [E2.out]⟩
              case measure => simp [intOf]
            · have h3 : (bits .and .i64 b 2 != 0) = false := by rw [bne, h2]; rfl
              have E2 : Hid (inn b 3 2 o = p) := by show inn b 3 2 o = _; rw [inn_miss (by rw [has1, h2]; rfl), HP.out]
              go_wp2
              go_round
              case rel => exact ⟨2, by omega, by go_num, by rw [E2.out]⟩
              case measure => simp [intOf]
          · have hor := orn32
            obtain ⟨p, hp⟩ : ∃ p, inn b 3 2 o = p := ⟨_, rfl⟩
            have HP : Hid (inn b 3 2 o = p) := hp
            rw [hp]
            clear hp
            cases h2 : (bits .and .i64 b 4 == 0)
            · have h3 : (bits .and .i64 b 4 != 0) = true := by rw [bne, h2]; rfl
              have E2 : Hid (inn b 3 3 o = bits .or .i64 p 8) := by show inn b 3 3 o = _; rw [inn_hit (by rw [has2, h2]; rfl), HP.out]; rfl
              go_wp2
              go_round
              case rel => exact ⟨3, by omega, by go_num, by rw [E2.out]⟩
              case measure => simp [intOf]
            · have h3 : (bits .and .i64 b 4 != 0) = false := by rw [bne, h2]; rfl
              have E2 : Hid (inn b 3 3 o = p) := by show inn b 3 3 o = _; rw [inn_miss (by rw [has2, h2]; rfl), HP.out]
              go_wp2
              go_round
              case rel => exact ⟨3, by omega, by go_num, by rw [E2.out]⟩
              case measure => simp [intOf]
          · have hor := orn33
            obtain ⟨p, hp⟩ : ∃ p, inn b 3 3 o = p := ⟨_, rfl⟩
            have HP : Hid (inn b 3 3 o = p) := hp
            rw [hp]
            clear hp
            cases h2 : (bits .and .i64 b 8 == 0)
            · have h3 : (bits .and .i64 b 8 != 0) = true := by rw [bne, h2]; rfl
              have E2 : Hid (inn b 3 4 o = bits .or .i64 p 8) := by show inn b 3 4 o = _; rw [inn_hit (by rw [has3, h2]; rfl), HP.out]; rfl
              go_wp2
              go_round
              case rel => exact ⟨4, by omega, by go_num, by rw [E2.out]⟩
              case measure => simp [intOf]
            · have h3 : (bits .and .i64 b 8 != 0) = false := by rw [bne, h2]; rfl
              have E2 : Hid (inn b 3 4 o = p) := by show inn b 3 4 o = _; rw [inn_miss (by rw [has3, h2]; rfl), HP.out]
              go_wp2
              go_round
              case rel => exact ⟨4, by omega, by go_num, by rw [E2.out]⟩
              case measure => simp [intOf]
          · go_wp2
            go_round
            case rel => exact ⟨4, by omega, by go_num, by rw [E.out]⟩
            case measure => simp [intOf]
      · have E : Hid (ou a b 4 = o) := by show ou a b 4 = _; rw [ou_miss (by rw [has3, h]; rfl), HO.out]
        go_wp2
        go_round
        case rel => exact ⟨4, by omega, by go_num, by rw [E.out]⟩
        case measure => simp [intOf]
    · go_wp2
      go_ret
      exact ⟨rfl, rfl⟩
end Go.Proofs.Qxb6600465a.Ere

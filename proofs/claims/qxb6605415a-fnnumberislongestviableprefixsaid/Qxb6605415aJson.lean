import Derived.Test.Qxb6605415aReads
import Derived.Test.Qxb6605415aCutAt
namespace Go.Proofs.Qxb6605415a.Json
open Go.RowKit Go.Proofs.Qxb6605415a.Num Go.Proofs.Qxb6605415a.Scan Go.Proofs.Qxb6605415a.Dec Go.Proofs.Qxb6605415a.Reads

theorem allDigits_any (b off c : Nat) (l : List Int) (hn : l.length ≤ 1000000) (w : World) (hb : Bytes w b off l) :
    Calls Try.prog 20 #[.slice (some ⟨b, off, none⟩) l.length c] w fun e w' => e = .returned (.bool (allDig l)) ∧ w' = w := by
  have HB : Hid (Bytes w b off l) := hb
  clear hb
  go_enter Try.func20, Try.ntmps20
  go_wp2
  go_loop [3] (fun v => ∃ k : Nat, v = .int .i64 k ∧ k ≤ l.length ∧ Hid (∀ i, i < k → dig (l.getD i 0) = true)) (fun v => l.length - (intOf v).toNat)
  case atStart => exact ⟨0, rfl, Nat.zero_le _, fun i hi => by omega⟩
  case round =>
    obtain ⟨k, rfl, hk, HK⟩ := hrel
    by_cases hlt : k < l.length
    · have hcell := HB.out k hlt
      obtain ⟨x, hx⟩ : ∃ x, l.getD k 0 = x := ⟨_, rfl⟩
      rw [hx] at hcell
      have HX : Hid (l.getD k 0 = x) := hx
      clear hx
      cases hd : dig x
      · have HF : Hid (allDig l = false) := by
          show allDig l = false
          cases h : allDig l with
          | false => rfl
          | true => have := (allDig_at l).1 h k hlt; rw [HX.out, hd] at this; cases this
        go_wp2_with (go_at_call 10; refine (isDigit_any x _).mono ?_; rintro e wy ⟨rfl, rfl⟩)
        go_ret
        exact ⟨by rw [HF.out]; rfl, rfl⟩
      · have HD : Hid (dig x = true) := hd
        go_wp2_with (go_at_call 10; refine (isDigit_any x _).mono ?_; rintro e wy ⟨rfl, rfl⟩)
        go_round
        case rel => exact ⟨k + 1, by go_num, by omega, fun i hi => by
          rcases Nat.lt_or_ge i k with h | h
          · exact HK.out i h
          · rw [show i = k from by omega, HX.out]; exact HD.out⟩
        case measure => simp [intOf]; omega
    · have HF : Hid (allDig l = true) := (allDig_at l).2 fun i hi => HK.out i (by omega)
      go_wp2
      go_ret
      exact ⟨by rw [HF.out]; rfl, rfl⟩


theorem elem22 : Try.prog.elem 22 = 5 := by kernel_rfl
theorem under22 : Try.prog.underlying 22 = some (.slice (Try.prog.elem 22)) := by kernel_rfl
/-- Where 'x[m:]' begins: Go points at no place behind an array's end. -/
def offAt (off c m : Nat) : Nat := if c = m then off else off + m
theorem slice_to (b off n c m : Nat) (h : m ≤ n) (_hn : n ≤ c) (w : World) : (Instr.sliceAt 22 (.slice (some ⟨b, off, none⟩) n c) none (some (.int .i64 (m : Int))) none).run Try.prog w = .ok (.slice (some ⟨b, off, none⟩) m c) w := by
  rw [run_sliceAt_slice w 22 _ _ _ _ under22, run_slice_h (P := Try.prog) w 22 _ n c under22 .i64 m (by omega) (by omega), elem22, size5]
  simp [sliced, Addr.add]
theorem slice_from (b off n c m : Nat) (i : Int) (hi : i = (m : Int)) (h : m ≤ n) (_hn : n ≤ c) (w : World) : (Instr.sliceAt 22 (.slice (some ⟨b, off, none⟩) n c) (some (.int .i64 i)) none none).run Try.prog w = .ok (.slice (some ⟨b, offAt off c m, none⟩) (n - m) (c - m)) w := by
  subst hi
  rw [run_sliceAt_slice w 22 _ _ _ _ under22, run_slice_l (P := Try.prog) w 22 _ n c under22 .i64 m (by omega) (by omega), elem22, size5]
  simp only [Result.andThen_ok, sliced, Int.toNat_natCast, offAt]
  by_cases e : c = m
  · simp [e]
  · simp [e, Addr.add]
    try omega
theorem bytes_from {w : World} {b off c : Nat} {l : List Int} (hb : Bytes w b off l) (hc : l.length ≤ c) (m : Nat) : Bytes w b (offAt off c m) (l.drop m) := by
  intro i hi
  simp at hi
  have := hb (m + i) (by omega)
  unfold offAt
  rw [if_neg (by omega), Nat.add_assoc, this]
  simp [List.getD]
theorem bytes_take {w : World} {b off : Nat} {l : List Int} (hb : Bytes w b off l) (m : Nat) : Bytes w b off (l.take m) := by
  intro i hi
  simp at hi
  rw [hb i (by omega)]
  simp [List.getD, show i < m by omega]
/-- A slice value that holds the bytes l. -/
def Sl (w : World) (v : Value) (l : List Int) : Prop := ∃ b off c, v = .slice (some ⟨b, off, none⟩) l.length c ∧ l.length ≤ c ∧ Bytes w b off l

set_option maxHeartbeats 1000000 in
theorem isJSON_any (b off c : Nat) (l : List Int) (hn : l.length ≤ 1000000) (hc : l.length ≤ c) (w : World) (hb : Bytes w b off l) :
    Calls Try.prog 17 #[.slice (some ⟨b, off, none⟩) l.length c] w fun e w' => e = .returned (.bool (isNum l)) ∧ w' = w := by
  have HB : Hid (Bytes w b off l) := hb
  clear hb
  go_enter Try.func17, Try.ntmps17
  go_upto_block 0 with fail
  go_cut [3, 4, 5, 6] from 12 to 36 (fun v3 v4 v5 _ wx => Sl w v3 (cutE l).1 ∧ v5 = .bool (cutE l).2.isSome ∧ (∀ r, (cutE l).2 = some r → Sl w v4 r) ∧ w = wx)
  case first =>
    go_wp2_with fail
    go_loop [3, 4, 5, 6] (fun v3 v4 v5 v6 => ∃ k : Nat, v6 = .int .i64 k ∧ k ≤ l.length ∧ v3 = .slice (some ⟨b, off, none⟩) l.length c ∧ v4 = .slice none 0 0 ∧ v5 = .bool false ∧ Hid (∀ i, i < k → expo (l.getD i 0) = false)) (fun _ _ _ v => l.length - (intOf v).toNat)
    case atStart => exact ⟨0, rfl, Nat.zero_le _, rfl, rfl, rfl, fun i hi => by omega⟩
    case round =>
      obtain ⟨k, rfl, hk, rfl, rfl, rfl, HK⟩ := hrel
      by_cases hlt : k < l.length
      · have hcell := HB.out k hlt
        obtain ⟨x, hx⟩ : ∃ x, l.getD k 0 = x := ⟨_, rfl⟩
        rw [hx] at hcell
        have HX : Hid (l.getD k 0 = x) := hx
        clear hx
        cases h1 : (x == 101) <;> cases h2 : (x == 69)
        · go_wp2
          go_round
          case rel => exact ⟨k + 1, by go_num, by omega, rfl, rfl, rfl, fun i hi => by
            rcases Nat.lt_or_ge i k with h | h
            · exact HK.out i h
            · rw [show i = k from by omega, HX.out, expo, h1, h2]; rfl⟩
          case measure => simp [intOf]; omega
        all_goals
          have HE : Hid (cutE l = (l.take k, some (l.drop (k + 1)))) := cutE_hit l k hlt HK.out (by rw [HX.out, expo, h1, h2]; rfl)
          have hs1 := slice_to b off l.length c k (by omega) hc
          have hs2 := slice_from b off l.length c (k + 1) ((k : Int) + 1) (by omega) (by omega) hc
          go_wp2
          go_meet
          exact ⟨by rw [HE.out]; exact ⟨b, off, c, by simp; omega, by simp; omega, bytes_take HB.out k⟩, by rw [HE.out]; rfl, fun r hr => by rw [HE.out] at hr; obtain rfl := Option.some.inj hr; exact ⟨b, _, _, by simp; rfl, by simp; omega, bytes_from HB.out hc (k + 1)⟩, rfl⟩
      · have HE : Hid (cutE l = (l, none)) := cutE_miss l fun i hi => HK.out i (by omega)
        go_wp2
        go_meet
        exact ⟨by rw [HE.out]; exact ⟨b, off, c, rfl, hc, HB.out⟩, by rw [HE.out]; rfl, (fun r hr => by rw [HE.out] at hr; cases hr), rfl⟩
  obtain ⟨⟨b3, o3, c3, rfl, hc3, hb3⟩, rfl, h4, rfl⟩ := hcut
  have hlE := cutE_len l
  obtain ⟨E, hE⟩ : ∃ E, cutE l = E := ⟨_, rfl⟩
  rw [hE] at hc3 hb3 h4 hlE
  rw [hE]
  have HE : Hid (cutE l = E) := hE
  obtain ⟨m, eo⟩ := E
  simp only at hc3 hb3 h4 hlE
  have hm6 : m.length ≤ 1000000 := by omega
  have HB3 : Hid (Bytes w b3 o3 m) := hb3
  have H4 : Hid ((∀ r, eo = some r → Sl w u4 r) ∧ ∀ r, eo = some r → r.length ≤ l.length) := ⟨h4, hlE.2⟩
  clear hb3 hE h4 hlE
  simp only
  go_upto_block 2 with fail
  go_cut [7, 8, 9, 10] from 37 to 55 (fun v7 v8 v9 _ wx => Sl w v7 (cutD m).1 ∧ v9 = .bool (cutD m).2.isSome ∧ (∀ r, (cutD m).2 = some r → Sl w v8 r ∧ r.length ≤ 1000000) ∧ (cutD m).1.length ≤ 1000000 ∧ w = wx)
  case first =>
    go_wp2_with fail
    go_loop [7, 8, 9, 10] (fun v7 v8 v9 v10 => ∃ k : Nat, v10 = .int .i64 k ∧ k ≤ m.length ∧ v7 = .slice (some ⟨b3, o3, none⟩) m.length c3 ∧ v8 = .slice none 0 0 ∧ v9 = .bool false ∧ Hid (∀ i, i < k → (m.getD i 0 == 46) = false)) (fun _ _ _ v => m.length - (intOf v).toNat)
    case atStart => exact ⟨0, rfl, Nat.zero_le _, rfl, rfl, rfl, fun i hi => by omega⟩
    case round =>
      obtain ⟨k, rfl, hk, rfl, rfl, rfl, HK⟩ := hrel
      by_cases hlt : k < m.length
      · have hcell := HB3.out k hlt
        obtain ⟨x, hx⟩ : ∃ x, m.getD k 0 = x := ⟨_, rfl⟩
        rw [hx] at hcell
        have HX : Hid (m.getD k 0 = x) := hx
        clear hx
        cases h1 : (x == 46)
        · go_wp2
          go_round
          case rel => exact ⟨k + 1, by go_num, by omega, rfl, rfl, rfl, fun i hi => by
            rcases Nat.lt_or_ge i k with h | h
            · exact HK.out i h
            · rw [show i = k from by omega, HX.out, h1]⟩
          case measure => simp [intOf]; omega
        · have HD : Hid (cutD m = (m.take k, some (m.drop (k + 1)))) := cutD_hit m k hlt HK.out (by rw [HX.out, h1])
          have hs1 := slice_to b3 o3 m.length c3 k (by omega) hc3
          have hs2 := slice_from b3 o3 m.length c3 (k + 1) ((k : Int) + 1) (by omega) (by omega) hc3
          go_wp2
          go_meet
          exact ⟨by rw [HD.out]; exact ⟨b3, o3, c3, by simp; omega, by simp; omega, bytes_take HB3.out k⟩, by rw [HD.out]; rfl, (fun r hr => by rw [HD.out] at hr; obtain rfl := Option.some.inj hr; exact ⟨⟨b3, _, _, by simp; rfl, by simp; omega, bytes_from HB3.out hc3 (k + 1)⟩, by simp; omega⟩), by rw [HD.out]; simp; omega, rfl⟩
      · have HD : Hid (cutD m = (m, none)) := cutD_miss m fun i hi => HK.out i (by omega)
        go_wp2
        go_meet
        exact ⟨by rw [HD.out]; exact ⟨b3, o3, c3, rfl, hc3, HB3.out⟩, by rw [HD.out]; rfl, (fun r hr => by rw [HD.out] at hr; cases hr), by rw [HD.out]; exact hm6, rfl⟩
  obtain ⟨⟨b7, o7, c7, rfl, hc7, hb7⟩, rfl, h8, hm7, rfl⟩ := hcut
  obtain ⟨D, hD⟩ : ∃ D, cutD m = D := ⟨_, rfl⟩
  rw [hD] at hc7 hb7 h8 hm7
  rw [hD]
  have HD : Hid (cutD m = D) := hD
  obtain ⟨wh, fo⟩ := D
  simp only at hc7 hb7 h8 hm7
  have HN : Hid (isNum l = (wholeOk (unmi wh) && fracOk fo && expOk eo)) := by
    show isNum l = _
    unfold isNum; rw [HE.out]; simp only; rw [HD.out]
  have HB7 : Hid (Bytes w b7 o7 wh) := hb7
  have H8 : Hid (∀ r, fo = some r → Sl w u8 r ∧ r.length ≤ 1000000) := h8
  clear hb7 hD h8
  simp only
  -- the minus
  go_upto_region 21 with fail
  go_cut [64] from 56 to 63 (fun s wx => s = .bool (isAt wh 0 45) ∧ w = wx)
  case first =>
    by_cases hlt : 0 < wh.length
    · have hcell := HB7.out 0 hlt
      rw [Nat.add_zero] at hcell
      obtain ⟨x, hx⟩ : ∃ x, wh.getD 0 0 = x := ⟨_, rfl⟩
      rw [hx] at hcell
      have HX : Hid (wh.getD 0 0 = x) := hx
      clear hx
      go_wp2
      go_meet
      exact ⟨by simp only [isAt, HX.out, hlt]; rfl, rfl⟩
    · go_wp2
      go_meet
      exact ⟨by simp [isAt, hlt], rfl⟩
  obtain ⟨rfl, rfl⟩ := hcut
  go_upto_if 64 with fail
  go_cut [7] from 64 to 66 (fun v wx => Sl w v (unmi wh) ∧ w = wx)
  case first =>
    cases hm : isAt wh 0 45
    · have HM : Hid (unmi wh = wh) := by show unmi wh = wh; rw [unmi_at, hm]; rfl
      go_wp2
      go_meet
      exact ⟨by rw [HM.out]; exact ⟨b7, o7, c7, rfl, hc7, HB7.out⟩, rfl⟩
    · have HM : Hid (unmi wh = wh.drop 1) := by show unmi wh = wh.drop 1; rw [unmi_at, hm]; rfl
      have hlt : 0 < wh.length := by simp only [isAt, Bool.and_eq_true, decide_eq_true_eq] at hm; exact hm.1
      have hs := slice_from b7 o7 wh.length c7 1 1 rfl (by omega) hc7
      go_wp2
      go_meet
      exact ⟨by rw [HM.out]; exact ⟨b7, _, _, by rw [List.length_drop], by simp; omega, bytes_from HB7.out hc7 1⟩, rfl⟩
  have hmw : (unmi wh).length ≤ 1000000 := by
    rw [unmi_at]
    split
    · rw [List.length_drop]; omega
    · exact hm7
  obtain ⟨⟨b6, o6, c6, rfl, hc6, hb6⟩, rfl⟩ := hcut
  obtain ⟨W, hW⟩ : ∃ W, unmi wh = W := ⟨_, rfl⟩
  rw [hW] at hc6 hb6 hmw
  rw [hW]
  have HN2 : Hid (isNum l = (some1 W && !lead0 W && fracOk fo && expOk eo)) := by
    show isNum l = _
    rw [HN.out, hW, wholeOk]
  have HB6 : Hid (Bytes w b6 o6 W) := hb6
  clear hb6 hW HN HB7 hc7
  -- the whole part
  go_upto_region 23 with fail
  go_cut [74] from 67 to 73 (fun s wx => s = .bool (!some1 W) ∧ w = wx)
  case first =>
    by_cases h0 : W.length = 0
    · have HS : Hid (some1 W = false) := by show some1 W = false; rw [some1_at]; simp [h0]
      have hz : ((W.length : Int) == 0) = true := by simp [h0]
      clear h0
      go_wp2
      go_meet
      exact ⟨by rw [HS.out]; rfl, rfl⟩
    · have HS : Hid (some1 W = allDig W) := by show some1 W = _; rw [some1_at]; simp [h0]
      have hz : ((W.length : Int) == 0) = false := by rw [beq_eq_false_iff_ne]; omega
      clear h0
      go_wp2_with (go_at_call 20; refine (allDigits_any b6 o6 c6 W hmw _ HB6.out).mono ?_; rintro e wy ⟨rfl, hw⟩; subst hw)
      go_meet
      exact ⟨by rw [HS.out], rfl⟩
  obtain ⟨rfl, rfl⟩ := hcut
  cases hs : some1 W
  · have HF : Hid (isNum l = false) := by show isNum l = false; rw [HN2.out, hs]; rfl
    go_wp2
    go_ret
    exact ⟨by rw [HF.out]; rfl, rfl⟩
  have HN3 : Hid (isNum l = (!lead0 W && fracOk fo && expOk eo)) := by show isNum l = _; rw [HN2.out, hs]; simp
  clear HN2 hs
  go_upto_region 25 with fail
  go_cut [83] from 74 to 82 (fun s wx => s = .bool (lead0 W) ∧ w = wx)
  case first =>
    by_cases hlt : 1 < W.length
    · have hcell := HB6.out 0 (by omega)
      rw [Nat.add_zero] at hcell
      obtain ⟨x, hx⟩ : ∃ x, W.getD 0 0 = x := ⟨_, rfl⟩
      rw [hx] at hcell
      have HL : Hid (lead0 W = (x == 48)) := by show lead0 W = _; rw [lead0_at, hx]; simp [hlt]
      clear hx
      go_wp2
      go_meet
      exact ⟨by rw [HL.out], rfl⟩
    · have HL : Hid (lead0 W = false) := by show lead0 W = _; rw [lead0_at]; simp [hlt]
      go_wp2
      go_meet
      exact ⟨by rw [HL.out], rfl⟩
  obtain ⟨rfl, rfl⟩ := hcut
  cases hs : lead0 W
  case true =>
    have HF : Hid (isNum l = false) := by show isNum l = false; rw [HN3.out, hs]; rfl
    go_wp2
    go_ret
    exact ⟨by rw [HF.out]; rfl, rfl⟩
  have HN4 : Hid (isNum l = (fracOk fo && expOk eo)) := by show isNum l = _; rw [HN3.out, hs]; simp
  clear HN3 hs
  go_upto_region 27 with fail
  go_cut [94] from 83 to 93 (fun s wx => s = .bool (!fracOk fo) ∧ w = wx)
  case first =>
    cases fo with
    | none =>
      go_wp2
      go_meet
      exact ⟨rfl, rfl⟩
    | some f =>
      obtain ⟨⟨b8, o8, c8, rfl, hc8, hb8⟩, hm8⟩ := H8.out f rfl
      have HB8 : Hid (Bytes w b8 o8 f) := hb8
      clear hb8
      by_cases h0 : f.length = 0
      · have HS : Hid (fracOk (some f) = false) := by show some1 f = false; rw [some1_at]; simp [h0]
        have hz : ((f.length : Int) == 0) = true := by simp [h0]
        clear h0
        go_wp2
        go_meet
        exact ⟨by rw [HS.out]; rfl, rfl⟩
      · have HS : Hid (fracOk (some f) = allDig f) := by show some1 f = _; rw [some1_at]; simp [h0]
        have hz : ((f.length : Int) == 0) = false := by rw [beq_eq_false_iff_ne]; omega
        clear h0
        go_wp2_with (go_at_call 20; refine (allDigits_any b8 o8 c8 f hm8 _ HB8.out).mono ?_; rintro e wy ⟨rfl, hw⟩; subst hw)
        go_meet
        exact ⟨by rw [HS.out], rfl⟩
  obtain ⟨rfl, rfl⟩ := hcut
  cases hs : fracOk fo
  · have HF : Hid (isNum l = false) := by show isNum l = false; rw [HN4.out, hs]; rfl
    go_wp2
    go_ret
    exact ⟨by rw [HF.out]; rfl, rfl⟩
  have HN5 : Hid (isNum l = expOk eo) := by show isNum l = _; rw [HN4.out, hs]; simp
  clear HN4 hs
  -- the exponent
  cases eo with
  | none =>
    have HF : Hid (isNum l = true) := by show isNum l = true; rw [HN5.out]; rfl
    go_wp2
    go_ret
    exact ⟨by rw [HF.out]; rfl, rfl⟩
  | some r =>
    obtain ⟨⟨b4, o4, c4, rfl, hc4, hb4⟩, hm4⟩ := (⟨H4.out.1 r rfl, H4.out.2 r rfl⟩ : Sl w u4 r ∧ r.length ≤ l.length)
    have HB4 : Hid (Bytes w b4 o4 r) := hb4
    clear hb4
    go_upto_region 30 with fail
    go_cut [110] from 94 to 109 (fun s wx => s = .bool (sgnAt r 0) ∧ w = wx)
    case first =>
      by_cases hlt : 0 < r.length
      · have hcell := HB4.out 0 hlt
        rw [Nat.add_zero] at hcell
        obtain ⟨x, hx⟩ : ∃ x, r.getD 0 0 = x := ⟨_, rfl⟩
        rw [hx] at hcell
        cases h1 : (x == 43)
        · have HX : Hid (sgnAt r 0 = (x == 45)) := by show sgnAt r 0 = _; simp only [sgnAt, sgn, hx, hlt, h1]; rfl
          clear hx
          go_wp2
          go_meet
          exact ⟨by rw [HX.out], rfl⟩
        · have HX : Hid (sgnAt r 0 = true) := by show sgnAt r 0 = _; simp only [sgnAt, sgn, hx, hlt, h1]; rfl
          clear hx
          go_wp2
          go_meet
          exact ⟨by rw [HX.out], rfl⟩
      · go_wp2
        go_meet
        exact ⟨by simp [sgnAt, hlt], rfl⟩
    obtain ⟨rfl, rfl⟩ := hcut
    go_upto_if 110 with fail
    go_cut [4] from 110 to 112 (fun v wx => Sl w v (unsg r) ∧ w = wx)
    case first =>
      cases hm : sgnAt r 0
      · have HM : Hid (unsg r = r) := by show unsg r = r; rw [unsg_at, hm]; rfl
        go_wp2
        go_meet
        exact ⟨by rw [HM.out]; exact ⟨b4, o4, c4, rfl, hc4, HB4.out⟩, rfl⟩
      · have HM : Hid (unsg r = r.drop 1) := by show unsg r = r.drop 1; rw [unsg_at, hm]; rfl
        have hlt : 0 < r.length := by simp only [sgnAt, Bool.and_eq_true, decide_eq_true_eq] at hm; exact hm.1
        have hs := slice_from b4 o4 r.length c4 1 1 rfl (by omega) hc4
        go_wp2
        go_meet
        exact ⟨by rw [HM.out]; exact ⟨b4, _, _, by rw [List.length_drop], by simp; omega, bytes_from HB4.out hc4 1⟩, rfl⟩
    have hmr : (unsg r).length ≤ 1000000 := by
      rw [unsg_at]
      split
      · rw [List.length_drop]; omega
      · omega
    obtain ⟨⟨b2, o2, c2, rfl, hc2, hb2⟩, rfl⟩ := hcut
    obtain ⟨R, hR⟩ : ∃ R, unsg r = R := ⟨_, rfl⟩
    rw [hR] at hc2 hb2 hmr
    rw [hR]
    have HN6 : Hid (isNum l = some1 R) := by show isNum l = _; rw [HN5.out, ← hR]; rfl
    have HB2 : Hid (Bytes w b2 o2 R) := hb2
    clear hb2 hR HN5
    by_cases h0 : R.length = 0
    · have HF : Hid (isNum l = false) := by show isNum l = false; rw [HN6.out, some1_at]; simp [h0]
      go_wp2
      go_ret
      exact ⟨by rw [HF.out]; rfl, rfl⟩
    · have HF : Hid (isNum l = allDig R) := by show isNum l = _; rw [HN6.out, some1_at]; simp [h0]
      cases hd : allDig R
      · have HF2 : Hid (isNum l = false) := by show isNum l = _; rw [HF.out, hd]
        go_wp2_with (go_at_call 20; refine (allDigits_any b2 o2 c2 R hmr _ HB2.out).mono ?_; rintro e wy ⟨rfl, hw⟩; subst hw)
        go_ret
        exact ⟨by rw [HF2.out]; rfl, rfl⟩
      · have HF2 : Hid (isNum l = true) := by show isNum l = _; rw [HF.out, hd]
        go_wp2_with (go_at_call 20; refine (allDigits_any b2 o2 c2 R hmr _ HB2.out).mono ?_; rintro e wy ⟨rfl, hw⟩; subst hw)
        go_ret
        exact ⟨by rw [HF2.out]; rfl, rfl⟩
end Go.Proofs.Qxb6605415a.Json

import Derived.Test.Qxb6003628aJoin
namespace Go.Proofs.Qxb6003628a.Walker
open Go.RowKit Go.Proofs.Qxb6003628a.Space

theorem bytes8_any (a0 : Option Addr) (n0 c0 : Nat) (p : Int) (s : Bool) (a3 : Option Addr) (n3 c3 : Nat) (h0 : n0 ≤ maxLen) (h3 : n3 ≤ maxLen) (w : World) :
    Calls Try.prog 8 #[.slice a0 n0 c0, .int .i64 p, .bool s, .slice a3 n3 c3] w fun e w' => ∃ b : Bool, e = .returned (.bool b) ∧ w' = w := by
  unfold maxLen at h0 h3
  go_enter Try.func8, Try.ntmps8
  go_wp2
  all_goals (go_ret; exact ⟨_, rfl, rfl⟩)

/-- What a clone is good for. -/
def Got (w : World) (a : Option Addr) (l : List Int) (c : Nat) : Prop := l.length ≤ c ∧ At w a l ∧ ∀ ad, a = some ad → ad.block < w.heap.size
theorem filled_got {g : Nat} {l : List Int} {w w' : World} (h : Filled g l.length l.length l w w') : Got w' (some ⟨g, 0, none⟩) l l.length :=
  ⟨Nat.le_refl _, .inr ⟨g, 0, rfl, h.lt, fun i hi => by rw [Nat.zero_add]; exact h.fill i hi⟩, fun ad had => by obtain rfl := Option.some.inj had; exact h.lt⟩
theorem got_below {w w' : World} {a : Option Addr} {l : List Int} {c : Nat} (h : Got w a l c) (hb : Below w.heap.size w w') : Got w' a l c :=
  ⟨h.1, at_below h.2.1 hb (Nat.le_refl _), fun ad had => Nat.lt_of_lt_of_le (h.2.2 ad had) hb.size⟩
theorem clone_any (a : Option Addr) (l : List Int) (c : Nat) (hn : l.length ≤ 1000000) (w : World) (hl : At w a l) (h0 : a = none → l = [] ∧ c = 0) :
    Calls Try.prog 10 #[.slice a l.length c] w fun e w' => ∃ a' c', e = .returned (.slice a' l.length c') ∧ Got w' a' l c' ∧ Below w.heap.size w w' := by
  cases a with
  | none =>
    obtain ⟨rfl, rfl⟩ := h0 rfl
    refine (clone_nil w).mono ?_
    rintro e w' ⟨rfl, rfl⟩
    exact ⟨none, 0, rfl, ⟨Nat.le_refl _, .inl rfl, (fun ad h => by cases h)⟩, Below.refl _ _⟩
  | some ad =>
    refine (clone_some ad l c hn w hl).mono ?_
    rintro e w' ⟨rfl, h⟩
    exact ⟨_, _, rfl, filled_got h, h.below⟩

theorem ret_bool {b : Bool} (h : b = true) : Ending.returned (.bool b) = .returned (.bool true) := by rw [h]
/-- A slice that lies below block g. -/
def Low (g : Nat) (w : World) (a : Option Addr) (l : List Int) (c : Nat) : Prop := l.length ≤ c ∧ At w a l ∧ ∀ ad, a = some ad → ad.block < g
theorem low_below {g : Nat} {w w' : World} {a : Option Addr} {l : List Int} {c : Nat} (h : Low g w a l c) (hb : Below g w w') : Low g w' a l c := by
  refine ⟨h.1, ?_, h.2.2⟩
  rcases h.2.1 with rfl | ⟨b, off, rfl, hlt, hy⟩
  · exact .inl rfl
  · exact .inr ⟨b, off, rfl, Nat.lt_of_lt_of_le hlt hb.size, fun i hi => by rw [← hy i hi]; exact hb.cell (p := ⟨b, off + i, none⟩) (show b < g from h.2.2 ⟨b, off, none⟩ rfl)⟩
theorem low_of_got {w : World} {a : Option Addr} {l : List Int} {c : Nat} (h : Got w a l c) : Low w.heap.size w a l c := h
theorem low_mono {g g' : Nat} {w : World} {a : Option Addr} {l : List Int} {c : Nat} (h : Low g w a l c) (hg : g ≤ g') : Low g' w a l c := ⟨h.1, h.2.1, fun ad had => Nat.lt_of_lt_of_le (h.2.2 ad had) hg⟩
theorem below_alloc (w : World) (o : Obj) : Below w.heap.size w (w.alloc o) := (Below.refl _ _).alloc (Nat.le_refl _) _
theorem stands_new (w : World) (a : Option Addr) (n c p : Nat) (s : Bool) : Stands w.heap.size a n c p (w.alloc (.cells #[.slice a n c, .int .i64 (p : Int), .bool s] 39)) (w.alloc (.cells #[.slice a n c, .int .i64 (p : Int), .bool s] 39)) :=
  ⟨by simp [go_sem], by simp [go_sem], by simp [go_sem], Below.refl _ _⟩
theorem stands_trans {g : Nat} {a : Option Addr} {n c p q : Nat} {w w1 w2 : World} (h1 : Stands g a n c p w w1) (h2 : Stands g a n c q w1 w2) : Stands g a n c q w w2 := ⟨h2.data, h2.pos, h2.free, h1.below.trans h2.below⟩
theorem stands_self {g : Nat} {a : Option Addr} {n c p : Nat} {w w1 : World} (h1 : Stands g a n c p w w1) : Stands g a n c p w1 w1 := ⟨h1.data, h1.pos, h1.free, Below.refl _ _⟩

theorem elem22 : Try.prog.elem 22 = 5 := by kernel_rfl
theorem under22 : Try.prog.underlying 22 = some (.slice (Try.prog.elem 22)) := by kernel_rfl
theorem size5 (w : World) : (sizeOf 5).run Try.prog w = .ok 1 w := by kernel_rfl
/-- Where 'x[m:]' begins: Go points at no place behind an array's end. -/
def fromA (a : Option Addr) (c m : Nat) : Option Addr := if c = m then a else a.map (·.add m)
theorem slice_to (a : Option Addr) (n c m : Nat) (h : m ≤ n) (_hn : n ≤ c) (w : World) : (Instr.sliceAt 22 (.slice a n c) none (some (.int .i64 (m : Int))) none).run Try.prog w = .ok (.slice a m c) w := by
  rw [run_sliceAt_slice w 22 _ _ _ _ under22, run_slice_h (P := Try.prog) w 22 _ n c under22 .i64 m (by omega) (by omega), elem22, size5]
  cases a <;> simp [sliced, Addr.add]
theorem slice_from (a : Option Addr) (n c m : Nat) (h : m ≤ n) (_hn : n ≤ c) (w : World) : (Instr.sliceAt 22 (.slice a n c) (some (.int .i64 (m : Int))) none none).run Try.prog w = .ok (.slice (fromA a c m) (n - m) (c - m)) w := by
  rw [run_sliceAt_slice w 22 _ _ _ _ under22, run_slice_l (P := Try.prog) w 22 _ n c under22 .i64 m (by omega) (by omega), elem22, size5]
  simp [sliced, fromA]
theorem at_take {w : World} {a : Option Addr} {l : List Int} (h : At w a l) (m : Nat) : At w a (l.take m) := by
  rcases h with rfl | ⟨b, off, rfl, hlt, hy⟩
  · exact .inl (by simp)
  · refine .inr ⟨b, off, rfl, hlt, fun i hi => ?_⟩
    simp at hi
    rw [hy i (by omega)]
    simp [List.getD, show i < m by omega]
theorem at_drop {w : World} {a : Option Addr} {l : List Int} {c : Nat} (h : At w a l) (hc : l.length ≤ c) (m : Nat) : At w (fromA a c m) (l.drop m) := by
  by_cases hm : l.length ≤ m
  · exact .inl (List.drop_eq_nil_iff.2 hm)
  rcases h with rfl | ⟨b, off, rfl, hlt, hy⟩
  · exact .inl (by simp)
  · refine .inr ⟨b, off + m, ?_, hlt, fun i hi => ?_⟩
    · unfold fromA
      rw [if_neg (by omega), Option.map_some, Addr.add_lit]
    · simp at hi
      rw [Nat.add_assoc, hy (m + i) (by omega)]
      simp [List.getD]

theorem join_n (a1 : Option Addr) (l1 : List Int) (c1 m1 : Nat) (a2 : Option Addr) (l2 : List Int) (c2 m2 : Nat) (a3 : Option Addr) (l3 : List Int) (c3 m3 : Nat) (e1 : l1.length = m1) (e2 : l2.length = m2) (e3 : l3.length = m3) (n1 : m1 ≤ 70000) (n2 : m2 ≤ 70000) (n3 : m3 ≤ 70000) (w : World) (h1 : At w a1 l1) (h2 : At w a2 l2) (h3 : At w a3 l3) :
    Calls Try.prog 14 #[.slice a1 m1 c1, .slice a2 m2 c2, .slice a3 m3 c3] w fun e w' => ∃ v, e = .returned v ∧ Own w' w.heap.size v (l1 ++ l2 ++ l3) ∧ Below w.heap.size w w' := by
  subst e1; subst e2; subst e3
  exact join_any a1 l1 c1 a2 l2 c2 a3 l3 c3 n1 n2 n3 w h1 h2 h3

set_option maxRecDepth 100000 in
set_option maxHeartbeats 4000000 in
theorem next_law (a0 : Option Addr) (d : List Int) (c0 : Nat) (pos : Int) (s : Bool) (a3 : Option Addr) (ws : List Int) (c3 : Nat) (w : World) (m0 : d.length ≤ maxLen) (m3 : ws.length ≤ maxLen)
    (h0 : At w a0 d) (z0 : a0 = none → d = [] ∧ c0 = 0) (h3 : At w a3 ws) (z3 : a3 = none → ws = [] ∧ c3 = 0) :
    Calls Try.prog 3 #[.slice a0 d.length c0, .int .i64 pos, .bool s, .slice a3 ws.length c3] w fun e w' => e = .returned (.bool true) ∧ Below w.heap.size w w' := by
  have k0 := m0
  have k3 := m3
  unfold maxLen at k0 k3
  have H0 : Hid (At w a0 d ∧ (a0 = none → d = [] ∧ c0 = 0)) := ⟨h0, z0⟩
  have H3 : Hid (At w a3 ws ∧ (a3 = none → ws = [] ∧ c3 = 0)) := ⟨h3, z3⟩
  clear h0 z0 h3 z3
  go_enter Try.func3, Try.ntmps3
  go_wp2_with fail
  refine (bytes8_any _ _ _ _ _ _ _ _ m0 m3 _).mono ?_
  rintro e w' ⟨b, rfl, hw⟩
  subst hw
  cases b
  · go_wp2
    go_ret
    exact ⟨rfl, Below.refl _ _⟩
  by_cases l0 : 65536 < d.length
  · go_wp2
    go_ret
    exact ⟨rfl, Below.refl _ _⟩
  by_cases l3 : 65536 < ws.length
  · go_wp2
    go_ret
    exact ⟨rfl, Below.refl _ _⟩
  by_cases p0 : pos < 0
  · go_wp2
    go_ret
    exact ⟨rfl, Below.refl _ _⟩
  by_cases p1 : (d.length : Int) < pos
  · go_wp2
    go_ret
    exact ⟨rfl, Below.refl _ _⟩
  obtain ⟨P, rfl⟩ := Int.eq_ofNat_of_zero_le (show 0 ≤ pos by omega)
  have hP : P ≤ d.length := by omega
  have hl0 : d.length ≤ 65536 := by omega
  have hl3 : ws.length ≤ 65536 := by omega
  clear l0 l3 p0 p1 m0 m3 k0 k3
  go_upto_region 9 with fail
  go_cut [9] from 18 to 37 (fun v wx => v = .int .i64 0 ∧ w' = wx)
  case first =>
    go_wp2
    go_meet
    exact ⟨rfl, rfl⟩
  obtain ⟨rfl, rfl⟩ := hcut
  go_wp2_with fail
  go_loop [9] (fun v => ∃ k : Nat, v = .int .i64 k ∧ k ≤ ws.length ∧ Hid (∀ i, i < k → sp (ws.getD i 0) = true)) (fun v => ws.length - (intOf v).toNat)
  case atStart => exact ⟨0, rfl, Nat.zero_le _, fun i hi => by omega⟩
  case round =>
    obtain ⟨k, rfl, hk, HK⟩ := hrel
    by_cases hlt : k < ws.length
    · obtain ⟨b, off, rfl, hblt, hcell⟩ := at_byte H3.out.1 hlt
      obtain ⟨x, hx⟩ : ∃ x, ws.getD k 0 = x := ⟨_, rfl⟩
      rw [hx] at hcell
      have HX : Hid (ws.getD k 0 = x) := hx
      clear hx
      cases hd : sp x
      · go_wp2_with (go_at_call 9; refine (isSpace_any x _).mono ?_; rintro e wy ⟨rfl, hw⟩; subst hw)
        go_ret
        exact ⟨rfl, Below.refl _ _⟩
      · have HD : Hid (sp x = true) := hd
        go_wp2_with (go_at_call 9; refine (isSpace_any x _).mono ?_; rintro e wy ⟨rfl, hw⟩; subst hw)
        go_round
        case rel => exact ⟨k + 1, by go_num, by omega, fun i hi => by
          rcases Nat.lt_or_ge i k with h | h
          · exact HK.out i h
          · rw [show i = k from by omega, HX.out]; exact HD.out⟩
        case measure => simp [intOf]; omega
    · have HWS : Hid (allSp ws = true) := (allSp_at ws).2 fun i hi => HK.out i (by omega)
      obtain rfl : k = ws.length := by omega
      clear HK hk hlt
      go_wp2_with fail
      refine (clone_any a0 d c0 (by omega) w' H0.out.1 H0.out.2).mono ?_
      rintro e w1 ⟨a0', c0', rfl, hgot0, hb1⟩
      have G0 : Hid (Got w1 a0' d c0') := hgot0
      have H3b : Hid (At w1 a3 ws) := at_below H3.out.1 hb1 (Nat.le_refl _)
      go_wp2_with fail
      refine (clone_any a3 ws c3 (by omega) w1 H3b.out H3.out.2).mono ?_
      rintro e w2 ⟨a3', c3', rfl, hgot3, hb2⟩
      have G3 : Hid (Got w2 a3' ws c3') := hgot3
      have G0b : Hid (Got w2 a0' d c0') := got_below G0.out hb2
      have HB2 : Hid (Below w'.heap.size w' w2) := hb1.trans (hb2.mono hb1.size)
      clear hgot0 hgot3 hb1 hb2 H3b G0 H0 H3
      obtain ⟨W2, rfl⟩ : ∃ W, W = w2 := ⟨_, rfl⟩
      go_wp2_with (go_at_call 11; refine (newWalker_any _ _ _ _ _ _).mono ?_; rintro e w3 ⟨rfl, rfl⟩)
      have L0 : Hid (Low W2.heap.size (W2.alloc (.cells #[.slice a0' d.length c0', .int .i64 (P : Int), .bool s] 39)) a0' d c0') := low_below (low_of_got G0b.out) (below_alloc _ _)
      have L3 : Hid (Low W2.heap.size (W2.alloc (.cells #[.slice a0' d.length c0', .int .i64 (P : Int), .bool s] 39)) a3' ws c3') := low_below (low_of_got G3.out) (below_alloc _ _)
      have S3 : Hid (Stands W2.heap.size a0' d.length c0' P (W2.alloc (.cells #[.slice a0' d.length c0', .int .i64 (P : Int), .bool s] 39)) (W2.alloc (.cells #[.slice a0' d.length c0', .int .i64 (P : Int), .bool s] 39))) := stands_new W2 a0' d.length c0' P s
      have HB3 : Hid (Below w'.heap.size w' (W2.alloc (.cells #[.slice a0' d.length c0', .int .i64 (P : Int), .bool s] 39))) := HB2.out.alloc HB2.out.size _
      have hgw : w'.heap.size ≤ W2.heap.size := HB2.out.size
      clear G0b G3 HB2
      generalize W2.alloc (.cells #[.slice a0' d.length c0', .int .i64 (P : Int), .bool s] 39) = W3 at *
      generalize W2.heap.size = g at *
      refine (next_any g a0' d c0' P (by omega) hP W3 L0.out.2.1 L0.out.2.2 S3.out).mono ?_
      rintro e w4 ⟨rfl, hs4⟩
      have hQ := nx_le d P hP
      obtain ⟨Q, hQe⟩ : ∃ Q, nx d P = Q := ⟨_, rfl⟩
      have HQ : Hid (nx d P = Q) := hQe
      rw [hQe] at hs4 hQ
      rw [hQe]
      obtain ⟨x, hx⟩ : ∃ x, d.getD Q 0 = x := ⟨_, rfl⟩
      have HX : Hid (d.getD Q 0 = x) := hx
      rw [hx]
      obtain ⟨hQ1, hQ2⟩ := hQ
      have S4 : Hid (Stands g a0' d.length c0' Q W3 w4) := hs4
      have L04 : Hid (Low g w4 a0' d c0') := low_below L0.out hs4.below
      have L34 : Hid (Low g w4 a3' ws c3') := low_below L3.out hs4.below
      have HB4 : Hid (Below w'.heap.size w' w4) := HB3.out.trans (hs4.below.mono hgw)
      clear hQe hx hs4 L0 L3 S3 HB3
      obtain ⟨W4, rfl⟩ : ∃ W, W = w4 := ⟨_, rfl⟩
      go_upto_region 21 with (go_at_call 13; refine (pos_any g Q _ S4.out.pos).mono ?_; rintro e wy ⟨rfl, hw⟩; subst hw)
      go_cut [13] from 50 to 71 (fun v wx => v = .int .i64 P ∧ W4 = wx)
      case first =>
        go_wp2
        go_meet
        exact ⟨rfl, rfl⟩
      obtain ⟨rfl, rfl⟩ := hcut
      go_wp2_with fail
      go_loop [13] (fun v => ∃ k : Nat, v = .int .i64 k ∧ P ≤ k ∧ k ≤ Q) (fun v => Q - (intOf v).toNat)
      case atStart => exact ⟨P, rfl, Nat.le_refl _, hQ1⟩
      case round =>
        obtain ⟨k, rfl, hk1, hk2⟩ := hrel
        by_cases hlt : k < Q
        · obtain ⟨b, off, rfl, hblt, hcell⟩ := at_byte L04.out.2.1 (show k < d.length by omega)
          have hsp : sp (d.getD k 0) = true := nx_between hk1 (by rw [HQ.out]; exact hlt)
          have hkd : k < d.length := by omega
          obtain ⟨y, hy⟩ : ∃ y, d.getD k 0 = y := ⟨_, rfl⟩
          rw [hy] at hcell hsp
          clear hy
          go_wp2_with (go_at_call 9; refine (isSpace_any y _).mono ?_; rintro e wy ⟨rfl, hw⟩; subst hw)
          go_round
          case rel => exact ⟨k + 1, by go_num, by omega, by omega⟩
          case measure => simp [intOf]; omega
        · obtain rfl : k = Q := by omega
          clear hk1 hk2 hlt hQ1
          obtain ⟨Q, rfl⟩ : ∃ Q, Q = k := ⟨_, rfl⟩
          go_upto_if 86 with fail
          go_cut [86] from 72 to 101 (fun _ wx => W4 = wx)
          case first =>
            by_cases hQd : Q < d.length
            · obtain ⟨b, off, rfl, hblt, hcell⟩ := at_byte L04.out.2.1 hQd
              have hsp : sp (d.getD Q 0) = false := by have := nx_at (d := d) (i := P) (by rw [HQ.out]; exact hQd); rw [HQ.out] at this; exact this
              rw [HX.out] at hcell hsp
              go_wp2_with (go_at_call 9; refine (isSpace_any x _).mono ?_; rintro e wy ⟨rfl, hw⟩; subst hw)
              go_meet
              exact rfl
            · have hx0 : (x != 0) = false := by rw [← HX.out]; simp [List.getD, hQd]
              go_wp2
              go_meet
              exact rfl
          obtain rfl := hcut
          go_wp2_with fail
          have hNQ : nx d Q = Q := by have := nx_nx d P; rw [HQ.out] at this; exact this
          refine (next_any g a0' d c0' Q (by omega) hQ2 W4 L04.out.2.1 L04.out.2.2 (stands_self S4.out)).mono ?_
          rintro e w5 ⟨rfl, hs5⟩
          rw [hNQ] at hs5
          rw [hNQ, HX.out]
          have S5 : Hid (Stands g a0' d.length c0' Q W4 w5) := hs5
          have L05 : Hid (Low g w5 a0' d c0') := low_below L04.out hs5.below
          have L35 : Hid (Low g w5 a3' ws c3') := low_below L34.out hs5.below
          have HB5 : Hid (Below w'.heap.size w' w5) := HB4.out.trans (hs5.below.mono hgw)
          clear hs5 hNQ L04 L34 HB4
          obtain ⟨W5, rfl⟩ : ∃ W, W = w5 := ⟨_, rfl⟩
          go_upto_region 34 with (go_at_call 13; refine (pos_any g Q _ S5.out.pos).mono ?_; rintro e wy ⟨rfl, hw⟩; subst hw)
          have hs1 := slice_to a0' d.length c0' P hP L05.out.1
          have hs2 := slice_from a0' d.length c0' P hP L05.out.1
          go_cut [15] from 72 to 120 (fun v15 wx => Own wx W5.heap.size v15 (d.take P ++ ws ++ d.drop P) ∧ Below W5.heap.size W5 wx)
          case first =>
            have HJ : Hid (∀ q, Calls Try.prog 14 #[.slice a0' P c0', .slice a3' ws.length c3', .slice (fromA a0' c0' P) (d.length - P) (c0' - P)] (W5.drewN q) fun e w' => ∃ v, e = .returned v ∧ Own w' W5.heap.size v (d.take P ++ ws ++ d.drop P) ∧ Below W5.heap.size W5 w') := by
              intro q
              refine (join_n a0' (d.take P) c0' P a3' ws c3' ws.length (fromA a0' c0' P) (d.drop P) (c0' - P) (d.length - P) (by simp; omega) rfl (by simp) (by omega) (by omega) (by omega) _ ?_ ?_ ?_).mono ?_
              · exact at_below (at_take L05.out.2.1 P) (below_drewN (Below.refl _ _) q) (Nat.le_refl _)
              · exact at_below L35.out.2.1 (below_drewN (Below.refl _ _) q) (Nat.le_refl _)
              · exact at_below (at_drop L05.out.2.1 L05.out.1 P) (below_drewN (Below.refl _ _) q) (Nat.le_refl _)
              · rintro e w6 ⟨v, rfl, h1, h2⟩
                exact ⟨v, rfl, h1, (below_drewN (Below.refl _ _) q).trans h2⟩
            have r1 : (0 : Int) ≤ (P : Int) := by omega
            have r2 : (P : Int) ≤ (d.length : Int) := by omega
            have r3 : (d.length : Int) ≤ (c0' : Int) := by have := L05.out.1; omega
            have r4 : (P : Int) ≤ (c0' : Int) := by omega
            go_region_held3 (fun _ => True) (trivial) ((go_at_call 14; refine (HJ.out 1).mono ?_; rintro e w6 ⟨v6, rfl, hown6, hb6⟩))
            go_wp2
            go_meet
            exact ⟨hown6, hb6⟩
          obtain ⟨hownJ, hbJ⟩ := hcut
          obtain ⟨WJ, rfl⟩ : ∃ W, W = wc := ⟨_, rfl⟩
          have hJn := join_nx d ws P hP HWS.out
          have hJa := join_at d ws P hP HWS.out
          have hJl : (d.take P ++ ws ++ d.drop P).length = d.length + ws.length := by simp; omega
          have HBJ : Hid (Below w'.heap.size w' WJ) := HB5.out.trans (hbJ.mono HB5.out.size)
          have hJ1 : (d.take P ++ ws ++ d.drop P).length ≤ 140000 := by omega
          have hJ2 : P ≤ (d.take P ++ ws ++ d.drop P).length := by omega
          clear hJl
          generalize d.take P ++ ws ++ d.drop P = J at *
          rw [hJn, HQ.out, HX.out] at hJa
          rw [HQ.out] at hJn
          obtain ⟨aJ, cJ, eJ, hcJ, hatJ, hlowJ⟩ := own_form hownJ
          rw [eJ]
          have HJ : Hid (At WJ aJ J ∧ ∀ ad, aJ = some ad → ad.block < WJ.heap.size) := ⟨hatJ, hlowJ⟩
          have HJN : Hid (nx J P = Q + ws.length) := hJn
          have HJA : Hid (J.getD (Q + ws.length) 0 = x) := hJa
          clear eJ hatJ hlowJ hownJ hbJ hs1 hs2 hJn hJa HWS HQ HX S4 S5 L05 L35 HB5 hcJ
          go_wp2_with (go_at_call 11; refine (newWalker_any _ _ _ _ _ _).mono ?_; rintro e w7 ⟨rfl, rfl⟩)
          have S7 := stands_new WJ aJ J.length cJ P s
          have HB7 : Hid (Below w'.heap.size w' (WJ.alloc (.cells #[.slice aJ J.length cJ, .int .i64 (P : Int), .bool s] 39))) := HBJ.out.alloc HBJ.out.size _
          have hgJ : w'.heap.size ≤ WJ.heap.size := HBJ.out.size
          have A7 : At (WJ.alloc (.cells #[.slice aJ J.length cJ, .int .i64 (P : Int), .bool s] 39)) aJ J := at_below HJ.out.1 (below_alloc _ _) (Nat.le_refl _)
          have LJ := HJ.out.2
          clear HBJ HJ
          generalize WJ.alloc (.cells #[.slice aJ J.length cJ, .int .i64 (P : Int), .bool s] 39) = W7 at *
          generalize WJ.heap.size = gJ at *
          refine (next_any gJ aJ J cJ P (by omega) (by omega) W7 A7 LJ S7).mono ?_
          rintro e w8 ⟨rfl, hs8⟩
          rw [HJN.out] at hs8
          rw [HJN.out, HJA.out]
          have S8 : Hid (Stands gJ aJ J.length cJ (Q + ws.length) W7 w8) := hs8
          have HB8 : Hid (Below w'.heap.size w' w8) := HB7.out.trans (hs8.below.mono hgJ)
          clear hs8 A7 LJ S7 HB7
          go_wp2_with (go_at_call 13; refine (pos_any gJ _ _ S8.out.pos).mono ?_; rintro e wy ⟨rfl, hw⟩; subst hw)
          go_ret
          exact ⟨ret_bool (by simp), HB8.out⟩

/-- A row of bytes that came in. -/
theorem at_row {w : World} {x : Addr} {len cap : Nat} {zs : List Int} (hlc : len ≤ cap) (hz : zs.length = cap) (hcell : ∀ i, i < zs.length → w.cell? (x.add i) = some (.int .u8 (zs.getD i 0))) : At w (some x) (zs.take len) := by
  by_cases h0 : len = 0
  · subst h0; exact .inl (by simp)
  · have hc0 := hcell 0 (by omega)
    obtain ⟨b, off, spot⟩ := x
    have hspot : spot = none := by simpa [Addr.add] using World.cell?_spot hc0
    subst hspot
    refine .inr ⟨b, off, rfl, ?_, fun i hi => ?_⟩
    · have := World.block_lt_of_cell? w _ hc0
      simpa [Addr.add] using this
    · simp at hi
      have := hcell i (by omega)
      rw [Addr.add_lit] at this
      rw [this]
      simp [List.getD, show i < len by omega]
end Go.Proofs.Qxb6003628a.Walker

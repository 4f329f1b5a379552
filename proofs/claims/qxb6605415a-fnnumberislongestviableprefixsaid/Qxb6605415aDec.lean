import Derived.Test.Qxb6605415aRows
import Derived.Test.Qxb6605415aNumAt
import Derived.WalkKit
import Derived.WalkSpells
import Derived.WalkLawsBesides
import Derived.Outline
import Derived.RowKit3
import Derived.Below
import Derived.Deep.AppendLies
import Derived.Laws.CopyOwn
import Derived.Laws.OwnMore
namespace Go.Proofs.Qxb6605415a.Dec
open Go.RowKit Go.Proofs.Qxb6605415a.Num

/-- The slice v is nil or lies in a row of the call's own (a block from B on), and holds the bytes l. -/
def Own (w : World) (B : Nat) (v : Value) (l : List Int) : Prop := w.ownsRow B 5 1 v l.length (l.map (Value.int .u8))

theorem own_block {w : World} {B : Nat} {v : Value} {l : List Int} (h : Own w B v l) : ∀ k, v.ownBlock = some k → B ≤ k := by
  intro k hk
  rcases h.2 with ⟨rfl, _⟩ | ⟨g, cap, cur, rfl, hb, _⟩
  · simp [Value.ownBlock] at hk
  · simp [Value.ownBlock] at hk; omega
theorem own_app {w : World} {B : Nat} {v : Value} {l ds : List Int} {n : Nat} (hn : ds.length = n) (h : w.ownsRow B 5 1 v (l.length + n) (l.map (Value.int .u8) ++ ds.map (Value.int .u8))) : Own w B v (l ++ ds) := by
  subst hn
  unfold Own
  rw [List.length_append, List.map_append]; exact h
theorem own_kept {w w' : World} {B : Nat} {v : Value} {l : List Int} (h : Own w B v l) (hk : ∀ k, v.ownBlock = some k → w'.heap[k]? = w.heap[k]?) : Own w' B v l := by
  refine ⟨h.1, ?_⟩
  rcases h.2 with hn | ⟨g, cap, cur, rfl, hb, hgg, rest⟩
  · exact .inl hn
  · exact .inr ⟨g, cap, cur, rfl, hb, by rw [hk g rfl]; exact hgg, rest⟩

theorem info5 : (Try.prog.info? 5).map (fun i => (i.zero, i.size, i.bytes)) = some (some (.int .u8 0), 1, 1) := by kernel_rfl

theorem len42 : Try.prog.arrayLen 42 = 20 := by kernel_rfl
theorem elem42 : Try.prog.elem 42 = 5 := by kernel_rfl
theorem under42 : Try.prog.underlying 42 = some (.array (Try.prog.arrayLen 42) (Try.prog.elem 42)) := by kernel_rfl
theorem size5 (w : World) : (sizeOf 5).run Try.prog w = .ok 1 w := by kernel_rfl
/-- 'buf[k:]' of the array of twenty bytes. -/
theorem slice42 (g k : Nat) (hk : k < 20) (w : World) : (Instr.sliceAt 42 (.pointer (some ⟨g, 0, none⟩)) (some (.int .i64 (k : Int))) none none).run Try.prog w = .ok (.slice (some ⟨g, k, none⟩) (20 - k) (20 - k)) w := by
  rw [run_sliceAt_array_l (P := Try.prog) w 42 ⟨g, 0, none⟩ under42 .i64 k (by omega) (by rw [len42]; omega), len42, elem42, size5]
  simp only [Result.andThen_ok, slicedAt, Int.toNat_natCast]
  rw [if_neg (by omega)]
  simp [Addr.add]
  omega

theorem news_of (w : World) (D : Array Value) (t : TypeId) (k : Nat) (L : List Value) (h : D.toList.drop k = L) (j : Nat) (u : Value) (hu : L[j]? = some u) : (w.alloc (.cells D t)).cell? ((⟨w.heap.size, k, none⟩ : Addr).add j) = some u := by
  rw [Addr.add_lit, World.cell?_alloc_new, ← hu, ← h]
  simp

/-! ### Plain facts on the digits -/
theorem pow_step (x : Int) (j : Nat) (h : x * 10 ^ j ≤ 18446744073709551615) (hx : 10 ≤ x) : j ≤ 18 ∧ x / 10 * 10 ^ (j + 1) ≤ 18446744073709551615 := by
  have hp : (0 : Int) < 10 ^ j := Int.pow_pos (by decide)
  constructor
  · rcases Nat.lt_or_ge 18 j with hj | hj
    · exfalso
      obtain ⟨m, rfl⟩ : ∃ m, j = m + 19 := ⟨j - 19, by omega⟩
      have h1 : (10 : Int) * 10 ^ (m + 19) ≤ x * 10 ^ (m + 19) := Int.mul_le_mul_of_nonneg_right hx (by omega)
      have h2 : (10 : Int) ^ (m + 19) = 10 ^ m * 10 ^ 19 := Int.pow_add ..
      have h3 : (1 : Int) ≤ 10 ^ m := Int.pow_pos (by decide)
      have h4 : (1 : Int) * 10 ^ 19 ≤ 10 ^ m * 10 ^ 19 := Int.mul_le_mul_of_nonneg_right h3 (by decide)
      rw [h2] at h1 h
      have h5 : (10 : Int) ^ 19 = 10000000000000000000 := by decide
      rw [h5] at h1 h h4
      omega
    · exact hj
  · have e : (10 : Int) ^ (j + 1) = 10 * 10 ^ j := by rw [Int.pow_succ, Int.mul_comm]
    rw [e, ← Int.mul_assoc]
    have h1 : x / 10 * 10 ≤ x := Int.ediv_mul_le x (by decide)
    exact Int.le_trans (Int.mul_le_mul_of_nonneg_right h1 (by omega)) h

theorem drop_set (C : Array Value) (k : Nat) (v : Value) (t : List Value) (hk : k < C.size) (h : C.toList.drop (k + 1) = t) : (C.setIfInBounds k v).toList.drop k = v :: t := by
  have h1 : k < (C.toList.set k v).length := by simp; omega
  rw [Array.toList_setIfInBounds, List.drop_eq_getElem_cons h1]
  simp
  rw [← h, List.drop_set_of_lt (by omega)]

theorem wrap_u64 (n : Int) : 0 ≤ IntKind.u64.wrap n ∧ IntKind.u64.wrap n ≤ 18446744073709551615 := by
  simp [IntKind.wrap, IntKind.bits, IntKind.signed]; omega
theorem unmi_whole {ds : List Int} (h : wholeOk ds = true) : unmi ds = ds := by
  cases ds with
  | nil => rfl
  | cons c u =>
    simp [wholeOk, some1, allDig, dig] at h
    have : c ≠ 45 := by omega
    simp [unmi, this]

/-- What the loop holds: the digits t from place k + 1 on; x is what is left of the number. -/
def Digits (C : Array Value) (k : Nat) (x : Int) (t : List Int) : Prop :=
  C.size = 20 ∧ C.toList.drop (k + 1) = t.map (Value.int .u8) ∧ t.length + k = 19 ∧ x * 10 ^ t.length ≤ 18446744073709551615 ∧ allDig t = true ∧ (t = [] ∨ 1 ≤ x)
theorem digits_k {C : Array Value} {k : Nat} {x : Int} {t : List Int} (h : Digits C k x t) (hx : 10 ≤ x) : 1 ≤ k := by
  obtain ⟨_, _, h3, h4, _⟩ := h
  have := (pow_step x t.length h4 hx).1
  omega
theorem digits_step {C : Array Value} {k : Nat} {x : Int} {t : List Int} (h : Digits C (k + 1) x t) (hx : 10 ≤ x) : Digits (C.setIfInBounds (k + 1) (.int .u8 (48 + x % 10))) k (x / 10) ((48 + x % 10) :: t) := by
  obtain ⟨h1, h2, h3, h4, h5, h6⟩ := h
  refine ⟨by simpa using h1, ?_, by simp; omega, ?_, ?_, .inr (by omega)⟩
  · rw [drop_set C (k + 1) _ _ (by omega) h2]; rfl
  · exact (pow_step x t.length h4 hx).2
  · simp [allDig, dig, h5]; omega
theorem digits_end {C : Array Value} {k : Nat} {x : Int} {t : List Int} (h : Digits C k x t) (hx0 : 0 ≤ x) (hx : x < 10) :
    (C.setIfInBounds k (.int .u8 (48 + x))).toList.drop k = ((48 + x) :: t).map (Value.int .u8) ∧ wholeOk ((48 + x) :: t) = true ∧ ((48 + x) :: t).length = 20 - k ∧ k < 20 := by
  obtain ⟨h1, h2, h3, h4, h5, h6⟩ := h
  refine ⟨?_, ?_, by simp; omega, by omega⟩
  · rw [drop_set C k _ _ (by omega) h2]; rfl
  · rw [wholeOk, some1, lead0_cons]
    have e1 : allDig ((48 + x) :: t) = true := by simp [allDig, dig, h5]; omega
    rw [e1]
    rcases h6 with rfl | h6
    · simp
    · have : (48 + x == 48) = false := by simp; omega
      simp [this]
theorem digits_start (u : Int) (hu1 : u ≤ 18446744073709551615) : Digits #[Value.int IntKind.u8 0, Value.int IntKind.u8 0, Value.int IntKind.u8 0, Value.int IntKind.u8 0,
      Value.int IntKind.u8 0, Value.int IntKind.u8 0, Value.int IntKind.u8 0, Value.int IntKind.u8 0,
      Value.int IntKind.u8 0, Value.int IntKind.u8 0, Value.int IntKind.u8 0, Value.int IntKind.u8 0,
      Value.int IntKind.u8 0, Value.int IntKind.u8 0, Value.int IntKind.u8 0, Value.int IntKind.u8 0,
      Value.int IntKind.u8 0, Value.int IntKind.u8 0, Value.int IntKind.u8 0, Value.int IntKind.u8 0] 19 u [] :=
  ⟨rfl, rfl, rfl, by simpa using hu1, rfl, .inl rfl⟩

set_option maxHeartbeats 400000 in
theorem appendUint_any (B : Nat) (v : Value) (l : List Int) (u : Int) (hu0 : 0 ≤ u) (hu1 : u ≤ 18446744073709551615) (w : World) (hown : Own w B v l) (hl : l.length ≤ 1000) (hB : B ≤ w.heap.size) :
    Calls Try.prog 12 #[v, .int .u64 u] w fun e w' => ∃ v', e = .returned v' ∧ ∃ ds, Own w' B v' (l ++ ds) ∧ wholeOk ds = true ∧ ds.length ≤ 20 ∧ Below B w w' := by
  go_enter Try.func12, Try.ntmps12
  go_wp2
  go_loopw [1, 6] (fun xv kv wr => ∃ (x : Int) (k : Nat) (C : Array Value) (t : List Int), xv = .int .u64 x ∧ kv = .int .i64 k ∧ 0 ≤ x ∧ x ≤ 18446744073709551615 ∧ k ≤ 19 ∧ Digits C k x t ∧ wr = w.alloc (.cells C 42)) (fun xv _ _ => (intOf xv).toNat)
  case atStart => exact ⟨u, 19, _, [], rfl, rfl, hu0, hu1, Nat.le_refl _, digits_start u hu1, rfl⟩
  case round =>
    obtain ⟨x, k, C, t, rfl, rfl, hx0, hx1, hk, hD, rfl⟩ := hrel
    by_cases hx : 10 ≤ x
    · have hk1 := digits_k hD hx
      obtain ⟨k, rfl⟩ : ∃ k', k = k' + 1 := ⟨k - 1, by omega⟩
      have hD2 := digits_step hD hx
      obtain ⟨old, hold⟩ : ∃ old, C[k + 1]? = some old := ⟨_, Array.getElem?_eq_getElem (by have := hD.1; omega)⟩
      go_wp2
      go_roundw
      case rel => exact ⟨x / 10, k, _, _, rfl, by go_num, by omega, by omega, by omega, hD2, rfl⟩
      case measure => simp [intOf]; omega
    · obtain ⟨e1, e2, e3, e4⟩ := digits_end hD hx0 (by omega)
      obtain ⟨old, hold⟩ : ∃ old, C[k]? = some old := ⟨_, Array.getElem?_eq_getElem (by have := hD.1; omega)⟩
      have HE : Hid ((C.setIfInBounds k (.int .u8 (48 + x))).toList.drop k = ((48 + x) :: t).map (Value.int .u8)) := e1
      have HL : Hid (((48 + x) :: t).length = 20 - k) := e3
      have HO : Hid (wholeOk ((48 + x) :: t) = true) := e2
      clear e1 e2 e3 hD
      have hs := slice42 w.heap.size k e4
      obtain ⟨i0, hi, hz0, hz1, hz2⟩ := info_parts info5
      have HI : Hid (Try.prog.info? 5 = some i0 ∧ i0.zero = some (.int .u8 0) ∧ i0.size = 1 ∧ i0.bytes = 1) := ⟨hi, hz0, hz1, hz2⟩
      clear hi hz0 hz1 hz2
      have HW : Hid (Own w B v l) := hown
      clear hown
      go_wp2_with (at_builtin; refine wpList_append_lies _ rfl _ _ 22 rfl B 5 i0 (.int .u8 0) 1 1 Try.underlying22 HI.out.1 HI.out.2.1 HI.out.2.2.1 HI.out.2.2.2 rfl (by decide) v l.length (l.map (Value.int .u8)) rfl (HW.out.alloc _) ⟨w.heap.size, k, none⟩ (20 - k) (20 - k) (((48 + x) :: t).map (Value.int .u8)) rfl (by rw [List.length_map, HL.out]; omega) (news_of w _ 42 k _ HE.out) (ints_oneCell _ _) (by omega) (by unfold maxLen; omega) (by omega) (by simp; omega) (w.heap.size + 1) (by simp) ?_; intro g cap w1 hown1 hgrow hat hlt)
      go_ret
      exact ⟨_, rfl, (48 + x) :: t, own_app HL.out hown1, HO.out, by rw [HL.out]; omega, Below.grown ((Below.refl _ _).alloc hB _) hgrow (by simp; omega) (own_block HW.out)⟩

set_option maxHeartbeats 400000 in
theorem appendInt_any (B : Nat) (v : Value) (l : List Int) (n : Int) (hn0 : -9223372036854775808 ≤ n) (hn1 : n ≤ 9223372036854775807) (w : World) (hown : Own w B v l) (hl : l.length ≤ 900) (hB : B ≤ w.heap.size) :
    Calls Try.prog 11 #[v, .int .i64 n] w fun e w' => ∃ v', e = .returned v' ∧ ∃ ds, Own w' B v' (l ++ ds) ∧ wholeOk (unmi ds) = true ∧ ds.length ≤ 21 ∧ Below B w w' := by
  obtain ⟨i0, hi, hz0, hz1, hz2⟩ := info_parts info5
  have HI : Hid (Try.prog.info? 5 = some i0 ∧ i0.zero = some (.int .u8 0) ∧ i0.size = 1 ∧ i0.bytes = 1) := ⟨hi, hz0, hz1, hz2⟩
  clear hi hz0 hz1 hz2
  have HW : Hid (Own w B v l) := hown
  clear hown
  by_cases hneg : n < 0
  · go_enter Try.func11, Try.ntmps11
    go_wp2_with (at_builtin; refine wpList_append_lies _ rfl _ _ 22 rfl B 5 i0 (.int .u8 0) 1 1 Try.underlying22 HI.out.1 HI.out.2.1 HI.out.2.2.1 HI.out.2.2.2 rfl (by decide) v l.length (l.map (Value.int .u8)) rfl (HW.out.alloc _) ⟨w.heap.size, 0, none⟩ 1 1 [.int .u8 45] rfl rfl (cell_one_new _ _ _) (by simp [Value.oneCell']) (by omega) (by unfold maxLen; omega) (by omega) (by simp; omega) (w.heap.size + 1) (by simp) ?_; intro g cap w1 hown1 hgrow hat hlt)
    refine (appendUint_any B _ (l ++ [45]) _ (wrap_u64 _).1 (wrap_u64 _).2 w1 (own_app (ds := [45]) rfl hown1) (by simp; omega) (Nat.le_trans (by simp; omega) hgrow.size)).mono ?_
    rintro e w2 ⟨v', rfl, ds, hown2, hds, hlen, hbel⟩
    have F : Hid (Own w2 B v' (l ++ 45 :: ds)) := by show Own w2 B v' (l ++ 45 :: ds); rw [List.append_cons]; exact hown2
    have G : Hid (Below B w w2) := (Below.grown ((Below.refl _ _).alloc hB _) hgrow (by simp; omega) (own_block HW.out)).trans hbel
    have HO : Hid (wholeOk ds = true) := hds
    clear hown2 hown1 hgrow hbel hds
    go_wp2
    go_ret
    exact ⟨_, rfl, 45 :: ds, F.out, by simpa [unmi] using HO.out, by simp; omega, G.out⟩
  · go_enter Try.func11, Try.ntmps11
    go_wp2_with fail
    refine (appendUint_any B _ l _ (by omega) (by omega) w HW.out (by omega) hB).mono ?_
    rintro e w2 ⟨v', rfl, ds, hown2, hds, hlen, hbel⟩
    have HO : Hid (wholeOk ds = true) := hds
    clear hds
    go_wp2
    go_ret
    exact ⟨_, rfl, ds, hown2, by rw [unmi_whole HO.out]; exact HO.out, by omega, hbel⟩
end Go.Proofs.Qxb6605415a.Dec

import Derived.Test.Qxb6003628aWalker
namespace Go.Proofs.Qxb6003628a.Walker
open Go.RowKit Go.Proofs.Qxb6003628a.Space

theorem info5 : (Try.prog.info? 5).map (fun i => (i.zero, i.size, i.bytes)) = some (some (.int .u8 0), 1, 1) := by kernel_rfl

/-- A row of n cells that may be written; the first k hold l's. -/
structure Filled (g n k : Nat) (l : List Int) (w w' : World) : Prop where
  there : ∀ i, i < n → ∃ old, w'.cell? ⟨g, i, none⟩ = some old
  free : ∀ i, w'.frozen? ⟨g, i, none⟩ = false
  fill : ∀ i, i < k → w'.cell? ⟨g, i, none⟩ = some (.int .u8 (l.getD i 0))
  lt : g < w'.heap.size
  below : Below g w w'
theorem filled_step {g n k : Nat} {l : List Int} {w w' : World} (h : Filled g n k l w w') (hk : k < n) : Filled g n (k + 1) l w (w'.setCell ⟨g, k, none⟩ (.int .u8 (l.getD k 0))) := by
  obtain ⟨old, ho⟩ := h.there k hk
  have same : (w'.setCell ⟨g, k, none⟩ (.int .u8 (l.getD k 0))).cell? ⟨g, k, none⟩ = some (.int .u8 (l.getD k 0)) := World.cell?_setCell_same _ _ _ ho
  have other : ∀ i, i ≠ k → (w'.setCell ⟨g, k, none⟩ (.int .u8 (l.getD k 0))).cell? ⟨g, i, none⟩ = w'.cell? ⟨g, i, none⟩ := fun i hi => World.cell?_setCell_other _ _ _ _ (fun e => hi (congrArg Addr.off e).symm)
  refine ⟨?_, ?_, ?_, ?_, Below.setCell (p := ⟨g, k, none⟩) h.below (Nat.le_refl _) _⟩
  · intro i hi
    by_cases e : i = k
    · subst e; exact ⟨_, same⟩
    · rw [other i e]; exact h.there i hi
  · intro i; rw [World.frozen?_setCell]; exact h.free i
  · intro i hi
    by_cases e : i = k
    · subst e; exact same
    · rw [other i e]; exact h.fill i (by omega)
  · simpa [World.setCell] using h.lt
theorem filled_start {w w1 : World} {n : Nat} {xs : List Value} (l : List Int) (hxs : xs.length = n) (ho : w1.ownsRow w.heap.size 5 1 (.slice (some ⟨w.heap.size, 0, none⟩) n n) n xs) (hg : w.grownBy w1 none) (hlt : w.heap.size < w1.heap.size) : Filled w.heap.size n 0 l w w1 := by
  refine ⟨?_, ?_, fun i hi => by omega, hlt, Below.grown (Below.refl _ _) hg (Nat.le_refl _) (by intro k hk; cases hk)⟩
  · intro i hi
    rw [World.ownsRow.cellAt ho i (by omega)]
    exact ⟨_, List.getElem?_eq_getElem (by omega)⟩
  · intro i; exact World.ownsRow.frozenAt ho i
theorem owns_lt {w : World} {B g n cap : Nat} {xs : List Value} (h : w.ownsRow B 5 1 (.slice (some ⟨g, 0, none⟩) n cap) n xs) : g < w.heap.size := by
  rcases h.2 with ⟨h', _⟩ | ⟨g', cap', cur, h', _, hg, _⟩
  · cases h'
  · simp only [Value.slice.injEq, Option.some.injEq, Addr.mk.injEq, and_true, true_and] at h'
    obtain ⟨rfl, rfl⟩ := h'
    rcases Nat.lt_or_ge g w.heap.size with hlt | hge
    · exact hlt
    · rw [Array.getElem?_eq_none hge] at hg; cases hg
theorem made_len (z : Array Value) (n : Nat) : (madeCells z n).toList.length = n := by simp [size_madeCells]

set_option maxHeartbeats 1000000 in
theorem clone_some (ad : Addr) (l : List Int) (c : Nat) (hn : l.length ≤ 1000000) (w : World) (hl : At w (some ad) l) :
    Calls Try.prog 10 #[.slice (some ad) l.length c] w fun e w' => e = .returned (.slice (some ⟨w.heap.size, 0, none⟩) l.length l.length) ∧ Filled w.heap.size l.length l.length l w w' := by
  have hnil := fun (wz : World) (aa : Option Addr) (nn cc : Nat) => Lib.run_eql_slice_nil (P := Try.prog) wz 22 5 aa nn cc 0 0 Try.underlying22
  obtain ⟨i0, hi, hz0, hz1, hz2⟩ := info_parts info5
  have HI : Hid (Try.prog.info? 5 = some i0 ∧ i0.zero = some (.int .u8 0) ∧ i0.size = 1 ∧ i0.bytes = 1) := ⟨hi, hz0, hz1, hz2⟩
  have hb1 : i0.bytes * l.length ≤ 281474976710656 := by rw [hz2]; omega
  clear hi hz0 hz1 hz2
  have HL : Hid (At w (some ad) l) := hl
  clear hl
  go_enter Try.func10, Try.ntmps10
  go_wp2_with (at_make; refine wpList_make_full _ rfl _ _ 22 rfl w.heap.size 5 i0 (.int .u8 0) 1 Try.underlying22 HI.out.1 HI.out.2.1 HI.out.2.2.1 _ _ _ _ l.length rfl rfl rfl rfl hb1 (by unfold maxLen; omega) (Nat.le_refl _) ?_; intro w1 hown1 hgrow1)
  have F1 : Hid (Filled w.heap.size l.length 0 l w w1) := filled_start l (by rw [made_len]; omega) hown1 hgrow1 (owns_lt hown1)
  clear hown1 hgrow1
  go_loopw [4] (fun v wr => ∃ k : Nat, v = .int .i64 k ∧ k ≤ l.length ∧ Filled w.heap.size l.length k l w wr) (fun v _ => l.length - (intOf v).toNat)
  case atStart => exact ⟨0, rfl, Nat.zero_le _, F1.out⟩
  case round =>
    obtain ⟨k, rfl, hk, hF⟩ := hrel
    have F : Hid (Filled w.heap.size l.length k l w wr) := hF
    by_cases hlt : k < l.length
    · obtain ⟨b, off, e, hblt, hcell⟩ := at_byte HL.out hlt
      obtain rfl := Option.some.inj e
      have hcell2 : wr.cell? ⟨b, off + k, none⟩ = some (.int .u8 (l.getD k 0)) := by rw [← hcell]; exact hF.below.cell (p := ⟨b, off + k, none⟩) hblt
      obtain ⟨old, hold⟩ := hF.there k hlt
      have hfr := hF.free k
      have F2 : Hid (Filled w.heap.size l.length (k + 1) l w (wr.setCell ⟨w.heap.size, k, none⟩ (.int .u8 (l.getD k 0)))) := filled_step hF hlt
      obtain ⟨x, hx⟩ : ∃ x, l.getD k 0 = x := ⟨_, rfl⟩
      rw [hx] at hcell2 F2
      clear hx hcell hF e
      go_wp2
      go_roundw
      case rel => exact ⟨k + 1, by go_num, by omega, F2.out⟩
      case measure => simp [intOf]; omega
    · obtain rfl : k = l.length := by omega
      clear hF
      go_wp2
      go_ret
      exact ⟨rfl, F.out⟩

theorem clone_nil (w : World) : Calls Try.prog 10 #[.slice none 0 0] w fun e w' => e = .returned (.slice none 0 0) ∧ w' = w := by
  have hnil := fun (wz : World) (aa : Option Addr) (nn cc : Nat) => Lib.run_eql_slice_nil (P := Try.prog) wz 22 5 aa nn cc 0 0 Try.underlying22
  go_enter Try.func10, Try.ntmps10
  go_wp2
  go_ret
  exact ⟨rfl, rfl⟩
end Go.Proofs.Qxb6003628a.Walker

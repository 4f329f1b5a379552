import Derived.Test.Qxb6600465aDecode
namespace Go.Proofs.Qxb6600465a.Ere
open Go.RowKit

theorem info29 : (Try.prog.info? 29).map (fun i => (i.zero, i.size, i.bytes)) = some (some (.pointer none), 1, 8) := by kernel_rfl
/-- A node of the parser's. -/
def NdE (w : World) (g : Nat) (k mn : Nat) (mx : Int) (v : Value) : Prop :=
  w.cell? ⟨g, 0, none⟩ = some (.int .i64 (k : Int)) ∧ w.cell? ⟨g, 4, none⟩ = some (.int .i64 (mn : Int)) ∧ w.cell? ⟨g, 5, none⟩ = some (.int .i64 mx) ∧ w.cell? ⟨g, 6, none⟩ = some v
theorem ndE_own : OwnBlock NdE := by
  intro w w' g k mn mx v h ⟨h0, h1, h2, h3⟩
  have c : ∀ i, w'.cell? ⟨g, i, none⟩ = w.cell? ⟨g, i, none⟩ := fun i => World.cell?_of_block (a := ⟨g, i, none⟩) h
  exact ⟨by rw [c]; exact h0, by rw [c]; exact h1, by rw [c]; exact h2, by rw [c]; exact h3⟩

def newObj (k mn mx : Int) (v : Value) : Obj := .cells #[.int .i64 k, .slice none 0 0, .bool false, .int .i64 0, .int .i64 mn, .int .i64 mx, v] 45
theorem new_any (k mn mx : Int) (a : Option Addr) (l c : Nat) (w : World) :
    Calls Try.prog 13 #[.int .i64 k, .int .i64 mn, .int .i64 mx, .slice a l c] w fun e w' => e = .returned (.pointer (some ⟨w.heap.size, 0, none⟩)) ∧ w' = w.alloc (newObj k mn mx (.slice a l c)) := by
  go_enter Try.func13, Try.ntmps13
  go_wp2
  go_ret
  exact ⟨rfl, rfl⟩
theorem ndE_new (w : World) (k mn : Nat) (mx : Int) (v : Value) : NdE (w.alloc (newObj k mn mx v)) w.heap.size k mn mx v :=
  ⟨by simp [go_sem, newObj], by simp [go_sem, newObj], by simp [go_sem, newObj], by simp [go_sem, newObj]⟩
/-- What 'toEre' leaves. -/
def Ered (d : List Int) (n pos : Nat) (w w' : World) (e : Ending) : Prop :=
  ∃ g, e = .returned (.pointer (some ⟨g, 0, none⟩)) ∧ Tree NdE d w' n w.heap.size w'.heap.size g pos ∧ Below w.heap.size w w'

set_option maxHeartbeats 4000000 in
set_option maxRecDepth 100000 in
theorem ere_zero (d : List Int) (pos g lo hi : Nat) (w : World) (hhi : hi ≤ w.heap.size) (ht : Tree NdT d w 0 lo hi g pos) :
    Calls Try.prog 8 #[.pointer (some ⟨g, 0, none⟩)] w fun e w' => Ered d 0 pos w w' e := by
  obtain ⟨hg1, hg2, v, ⟨h0, h1, h2, h3⟩, a, c, rfl, _⟩ := ht
  have hglt : g < w.heap.size := by omega
  obtain ⟨q1, q2, q3⟩ := plain_kind (kind_zero d pos)
  have EK : Hid (cntAt d 0 pos = 0) := q1
  obtain ⟨K, hK⟩ : ∃ K, kindAt d 0 pos = K := ⟨_, rfl⟩
  obtain ⟨mn, hmn⟩ : ∃ K, minAt d 0 pos = K := ⟨_, rfl⟩
  obtain ⟨mx, hmx⟩ : ∃ K, maxAt d 0 pos = K := ⟨_, rfl⟩
  have HK : Hid (kindAt d 0 pos = K ∧ minAt d 0 pos = mn ∧ maxAt d 0 pos = mx) := ⟨hK, hmn, hmx⟩
  rw [hK] at h0
  rw [hmn] at h1
  rw [hmx] at h2
  clear q1 q2 q3 hK hmn hmx
  go_enter Try.func8, Try.ntmps8
  go_wp2_with fail
  refine wp_loop_rounds 1 ?_
  rw [rounds_succ]
  go_wp2_with fail
  go_region_held3 (fun w' => w'.cell? ⟨g, 0, none⟩ = some (.int .i64 (K : Int)) ∧ w'.cell? ⟨g, 1, none⟩ = some (.int .i64 (mn : Int)) ∧ w'.cell? ⟨g, 2, none⟩ = some (.int .i64 mx)) (go_keep) ((go_at_call 13; refine (new_any _ _ _ _ _ _ _).mono ?_; rintro e w' ⟨rfl, rfl⟩))
  go_wp2_with fail
  go_ret
  refine ⟨w.heap.size, rfl, tree_leaf (v := .slice none 0 0) (a := none) (c := 0) EK.out (Nat.le_refl _) (by simp) rfl ?_, ?_⟩
  · rw [HK.out.1, HK.out.2.1, HK.out.2.2]
    exact ndE_new w.drew K mn mx _
  · exact (Below.refl _ _).drew.alloc (Nat.le_refl _) _

theorem ered_end {d : List Int} {n pos : Nat} {w wr : World} {e : Ending} {ps : List Value} {v : Value} {K mn : Nat} {mx : Int} (hk : kindAt d (n + 1) pos = K ∧ minAt d (n + 1) pos = mn ∧ maxAt d (n + 1) pos = mx) (hp : Part NdE d 29 n w.heap.size (subAt d n pos) (cntAt d (n + 1) pos) ps wr v) (hb : Below w.heap.size w wr) (he : e = .returned (.pointer (some ⟨wr.heap.size, 0, none⟩))) : Ered d (n + 1) pos w (wr.drew.alloc (newObj K mn mx v)) e := by
  obtain ⟨rfl, rfl, rfl⟩ := hk
  have hb2 : Below wr.heap.size wr (wr.drew.alloc (newObj (kindAt d (n + 1) pos) (minAt d (n + 1) pos) (maxAt d (n + 1) pos) v)) := (Below.refl _ _).drew.alloc (Nat.le_refl _) _
  exact ⟨wr.heap.size, he, ⟨hb.size, by simp, v, ndE_new wr.drew _ _ _ _, part_lay (part_below ndE_own hp hb2) _ (Nat.le_refl _)⟩, hb.trans (hb2.mono hb.size)⟩
/-- What the loop over the subs holds. -/
def EreRound (d : List Int) (n pos : Nat) (w : World) (k : Nat) (wr : World) (v : Value) : Prop :=
  ∃ ps, Part NdE d 29 n w.heap.size (subAt d n pos) k ps wr v ∧ Below w.heap.size w wr
theorem ere_step {d : List Int} {n pos : Nat} {w : World} {k : Nat} {wr w1 w2 : World} {ps : List Value} {v : Value} {gi g cap : Nat} {o : Obj}
    (hp : Part NdE d 29 n w.heap.size (subAt d n pos) k ps wr v) (hb : Below w.heap.size w wr)
    (hb1 : Below wr.heap.size wr w1) (ht : Tree NdE d w1 n wr.heap.size w1.heap.size gi (subAt d n pos k))
    (hown : w2.ownsRow w.heap.size 29 1 (.slice (some ⟨g, 0, none⟩) (k + 1) cap) (k + 1) (ps ++ [.pointer (some ⟨gi, 0, none⟩)])) (hgrow : (w1.alloc o).grownBy w2 v.ownBlock) (hat : v.ownBlock = some g ∨ g = w1.heap.size + 1) :
    EreRound d n pos w (k + 1) w2 (.slice (some ⟨g, 0, none⟩) (k + 1) cap) := by
  refine ⟨_, part_step ndE_own hp hb.size hb1 ht hown hgrow hat, ?_⟩
  have q1 : Below w.heap.size w (w1.alloc o) := (hb.trans (hb1.mono hb.size)).alloc (Nat.le_trans hb.size hb1.size) o
  exact Below.grown q1 hgrow q1.size (fun q hq => (own_ge hp.owns q hq).1)
theorem own_slice {w : World} {base e : Nat} {v : Value} {k : Nat} {ps : List Value} (h : w.ownsRow base e 1 v k ps) : ∃ a l c, v = .slice a l c := by
  rcases h.2 with ⟨rfl, _⟩ | ⟨g, cap, cur, rfl, _⟩
  · exact ⟨_, _, _, rfl⟩
  · exact ⟨_, _, _, rfl⟩

set_option maxHeartbeats 4000000 in
set_option maxRecDepth 100000 in
theorem toEre_any (d : List Int) : ∀ n pos g lo hi (w : World), hi ≤ w.heap.size → Tree NdT d w n lo hi g pos →
    Calls Try.prog 8 #[.pointer (some ⟨g, 0, none⟩)] w fun e w' => Ered d n pos w w' e := by
  intro n
  induction n with
  | zero => intro pos g lo hi w h1 h2; exact ere_zero d pos g lo hi w h1 h2
  | succ n ih =>
    have IH : Hid (∀ pos g lo hi (w : World), hi ≤ w.heap.size → Tree NdT d w n lo hi g pos → Calls Try.prog 8 #[.pointer (some ⟨g, 0, none⟩)] w fun e w' => Ered d n pos w w' e) := ih
    clear ih
    rintro pos g lo hi w hhi ⟨hg1, hg2, v0, ⟨h0, h1, h2, h3⟩, a, c, rfl, hlay⟩
    have hglt : g < w.heap.size := by omega
    have hc3 := cnt_le d (n + 1) pos
    have HL : Hid (∀ i, i < cntAt d (n + 1) pos → ∃ h gi li ui, a = some ⟨h, 0, none⟩ ∧ h < hi ∧ w.cell? ⟨h, i, none⟩ = some (.pointer (some ⟨gi, 0, none⟩)) ∧ ui ≤ hi ∧ Tree NdT d w n li ui gi (subAt d n pos i)) := by
      intro i hi'
      rcases hlay with h | ⟨h, rfl, _, hh, hs⟩
      · omega
      · obtain ⟨gi, li, ui, q1, _, q3, q2⟩ := hs i hi'
        exact ⟨h, gi, li, ui, rfl, hh, q1, q3, q2⟩
    clear hlay
    obtain ⟨K, hK⟩ : ∃ K, kindAt d (n + 1) pos = K := ⟨_, rfl⟩
    obtain ⟨mn, hmn⟩ : ∃ mn, minAt d (n + 1) pos = mn := ⟨_, rfl⟩
    obtain ⟨mx, hmx⟩ : ∃ mx, maxAt d (n + 1) pos = mx := ⟨_, rfl⟩
    obtain ⟨m, hm⟩ : ∃ m, cntAt d (n + 1) pos = m := ⟨_, rfl⟩
    have HK : Hid (kindAt d (n + 1) pos = K ∧ minAt d (n + 1) pos = mn ∧ maxAt d (n + 1) pos = mx) := ⟨hK, hmn, hmx⟩
    have HM : Hid (cntAt d (n + 1) pos = m) := hm
    rw [hK] at h0
    rw [hmn] at h1
    rw [hmx] at h2
    rw [hm] at h3 hc3 HL
    clear hK hmn hmx hm
    obtain ⟨i0, hi0, hz0, hz1, hz2⟩ := info_parts info29
    have HI : Hid (Try.prog.info? 29 = some i0 ∧ i0.zero = some (.pointer none) ∧ i0.size = 1 ∧ i0.bytes = 8) := ⟨hi0, hz0, hz1, hz2⟩
    clear hi0 hz0 hz1 hz2
    go_enter Try.func8, Try.ntmps8
    go_wp2_with fail
    go_loopw [3, 4] (fun vs vi wr => ∃ k : Nat, k ≤ m ∧ vi = .int .i64 k ∧ EreRound d n pos w k wr vs) (fun _ v _ => m - (intOf v).toNat)
    case atStart => exact ⟨0, Nat.zero_le _, rfl, [], part_nil d 29 n _ _ _, Below.refl _ _⟩
    case round =>
      obtain ⟨k, hk, rfl, ps, hp, hb⟩ := hrel
      obtain ⟨va, vl, vc, rfl⟩ := own_slice hp.owns
      obtain ⟨V, hV⟩ : ∃ V, V = Value.slice va vl vc := ⟨_, rfl⟩
      have HP : Hid (Part NdE d 29 n w.heap.size (subAt d n pos) k ps wr (.slice va vl vc)) := hp
      have HB : Hid (Below w.heap.size w wr) := hb
      have g0 : wr.cell? ⟨g, 0, none⟩ = some (.int .i64 (K : Int)) := by rw [hb.cell (p := ⟨g, 0, none⟩) hglt]; exact h0
      have g1 : wr.cell? ⟨g, 1, none⟩ = some (.int .i64 (mn : Int)) := by rw [hb.cell (p := ⟨g, 1, none⟩) hglt]; exact h1
      have g2 : wr.cell? ⟨g, 2, none⟩ = some (.int .i64 mx) := by rw [hb.cell (p := ⟨g, 2, none⟩) hglt]; exact h2
      have g3 : wr.cell? ⟨g, 3, none⟩ = some (.slice a m c) := by rw [hb.cell (p := ⟨g, 3, none⟩) hglt]; exact h3
      have hwz := hb.size
      have hgw : g < wr.heap.size := by omega
      by_cases hlt : k < m
      · obtain ⟨h, gi, li, ui, rfl, hh, hcell0, hui, ht0⟩ := HL.out k hlt
        have hcell : wr.cell? ⟨h, k, none⟩ = some (.pointer (some ⟨gi, 0, none⟩)) := by rw [hb.cell (p := ⟨h, k, none⟩) (by show h < _; omega)]; exact hcell0
        have ht : Tree NdT d wr n li ui gi (subAt d n pos k) := tree_kept ndT_own d n li ui gi _ (fun q _ q2 => hb.block q (by omega)) ht0
        have HC : Hid (Calls Try.prog 8 #[.pointer (some ⟨gi, 0, none⟩)] wr fun e w' => Ered d n (subAt d n pos k) wr w' e) := IH.out _ gi li ui wr (by omega) ht
        have hps : ps.length = k := by have := hp.owns.1; omega
        clear hp hb ht ht0 hcell0 h0 h1 h2 h3 hV g0 g1 g2
        go_wp2_with fail
        refine HC.out.mono ?_
        rintro e w1 ⟨ge, rfl, ht, hb1⟩
        have HT : Hid (Tree NdE d w1 n wr.heap.size w1.heap.size ge (subAt d n pos k)) := ht
        have HB1 : Hid (Below wr.heap.size wr w1) := hb1
        have HP1 : Hid (Part NdE d 29 n w.heap.size (subAt d n pos) k ps w1 (.slice va vl vc)) := part_below ndE_own HP.out hb1
        have hsz := hb1.size
        clear ht hb1
        obtain ⟨W1, rfl⟩ : ∃ W, W = w1 := ⟨_, rfl⟩
        go_wp2_with (at_builtin; refine wpList_append_lies _ rfl _ _ 39 rfl w.heap.size 29 i0 (.pointer none) 1 8 Try.underlying39 HI.out.1 HI.out.2.1 HI.out.2.2.1 HI.out.2.2.2 rfl (by decide) (.slice va vl vc) k ps rfl (HP1.out.owns.alloc _) ⟨W1.heap.size, 0, none⟩ 1 1 [.pointer (some ⟨ge, 0, none⟩)] rfl rfl (cell_one_new _ _ _) (by simp [Value.oneCell']) (by omega) (by unfold maxLen; omega) (by omega) (by simp; omega) (W1.heap.size + 1) (by simp) ?_; intro g' cap' w2 hown2 hgrow2 hat hglt2; have hst := ere_step HP.out HB.out HB1.out HT.out hown2 hgrow2 hat; have HR : Hid (EreRound d n pos w (k + 1) w2 (.slice (some ⟨g', 0, none⟩) (k + 1) cap')) := hst; clear hst hown2 hgrow2 hat)
        go_roundw
        case rel => exact ⟨k + 1, by omega, by go_num, HR.out⟩
        case measure => simp [intOf]; omega
      · obtain rfl : k = m := by omega
        clear hp hb hV h0 h1 h2 h3
        go_wp2_with fail
        go_region_held3 (fun w' => w'.cell? ⟨g, 0, none⟩ = some (.int .i64 (K : Int)) ∧ w'.cell? ⟨g, 1, none⟩ = some (.int .i64 (mn : Int)) ∧ w'.cell? ⟨g, 2, none⟩ = some (.int .i64 mx)) (go_keep) ((go_at_call 13; refine (new_any _ _ _ _ _ _ _).mono ?_; rintro e w' ⟨rfl, rfl⟩))
        go_wp2_with fail
        go_ret
        exact ered_end HK.out (by rw [HM.out]; exact HP.out) HB.out rfl
end Go.Proofs.Qxb6600465a.Ere

import Derived.Test.Qxb6003628aRows
import Derived.Test.Qxb6003628aSpace
import Derived.WalkKit
import Derived.WalkSpells
import Derived.WalkLawsBesides
import Derived.Outline
import Derived.Deep.QuietTactic
import Derived.BigQuiet
import Derived.RowKit3
import Derived.Below
import Derived.Deep.DeepCutAuto
import Derived.Deep.CutBlock
import Derived.Deep.AppendLies
import Derived.Deep.RegionHeld3
import Derived.Laws.OwnMore
namespace Go.Proofs.Qxb6003628a.Walker
open Go.RowKit Go.Proofs.Qxb6003628a.Space

/-- The bytes d lie in block b from offset off on. -/
def Bytes (w : World) (b off : Nat) (d : List Int) : Prop := ∀ i, i < d.length → w.cell? ⟨b, off + i, none⟩ = some (.int .u8 (d.getD i 0))
/-- The slice at address a, of the length of l, holds the bytes l (an empty one may have any address, or none). -/
def At (w : World) (a : Option Addr) (l : List Int) : Prop := l = [] ∨ ∃ b off, a = some ⟨b, off, none⟩ ∧ b < w.heap.size ∧ Bytes w b off l

theorem at_byte {w : World} {a : Option Addr} {l : List Int} (h : At w a l) {k : Nat} (hk : k < l.length) : ∃ b off, a = some ⟨b, off, none⟩ ∧ b < w.heap.size ∧ w.cell? ⟨b, off + k, none⟩ = some (.int .u8 (l.getD k 0)) := by
  rcases h with rfl | ⟨b, off, rfl, hlt, hb⟩
  · simp at hk
  · exact ⟨b, off, rfl, hlt, hb k hk⟩
theorem at_below {w w' : World} {a : Option Addr} {l : List Int} {B : Nat} (h : At w a l) (hb : Below B w w') (hB : w.heap.size ≤ B) : At w' a l := by
  rcases h with rfl | ⟨b, off, rfl, hlt, hy⟩
  · exact .inl rfl
  · exact .inr ⟨b, off, rfl, Nat.lt_of_lt_of_le hlt hb.size, fun i hi => by rw [← hy i hi]; exact hb.cell (p := ⟨b, off + i, none⟩) (Nat.lt_of_lt_of_le hlt hB)⟩

theorem isSpace_any (x : Int) (w : World) : Calls Try.prog 9 #[.int .u8 x] w fun e w' => e = .returned (.bool (sp x)) ∧ w = w' := by
  cases h1 : (x == 32) <;> cases h2 : (x == 9) <;> cases h3 : (x == 10) <;> cases h4 : (x == 13)
  all_goals
    have E : Hid (sp x = (x == 32 || x == 9 || x == 10 || x == 13)) := rfl
    rw [h1, h2, h3, h4] at E
    go_enter Try.func9, Try.ntmps9
    go_wp2
    go_ret
    exact ⟨by rw [E.out]; rfl, rfl⟩

theorem newWalker_any (a : Option Addr) (n c : Nat) (p : Int) (s : Bool) (w : World) : Calls Try.prog 11 #[.slice a n c, .int .i64 p, .bool s] w fun e w' => e = .returned (.pointer (some ⟨w.heap.size, 0, none⟩)) ∧ w' = w.alloc (.cells #[.slice a n c, .int .i64 p, .bool s] 39) := by
  go_enter Try.func11, Try.ntmps11
  go_wp2
  go_ret
  exact ⟨rfl, rfl⟩

theorem pos_any (g : Nat) (p : Int) (w : World) (h : w.cell? ⟨g, 1, none⟩ = some (.int .i64 p)) : Calls Try.prog 13 #[.pointer (some ⟨g, 0, none⟩)] w fun e w' => e = .returned (.int .i64 p) ∧ w = w' := by
  go_enter Try.func13, Try.ntmps13
  go_wp2
  go_ret
  exact ⟨rfl, rfl⟩

/-- What 'Next' leaves of its walker, and of all that lies below it. -/
structure Stands (g : Nat) (a : Option Addr) (n c : Nat) (p : Nat) (w w' : World) : Prop where
  data : w'.cell? ⟨g, 0, none⟩ = some (.slice a n c)
  pos : w'.cell? ⟨g, 1, none⟩ = some (.int .i64 p)
  free : w'.frozen? ⟨g, 1, none⟩ = false
  below : Below g w w'
def posOf (g : Nat) (w : World) : Nat := (intOf ((w.cell? ⟨g, 1, none⟩).getD (.bool false))).toNat

theorem stands_drew {g : Nat} {a : Option Addr} {n c p : Nat} {w w' : World} (h : Stands g a n c p w w') (q : Nat) : Stands g a n c p w (w'.drewN q) :=
  ⟨by simpa using h.data, by simpa using h.pos, by simpa using h.free, below_drewN h.below q⟩
theorem stands_set {g : Nat} {a : Option Addr} {n c p : Nat} {w w' : World} (h : Stands g a n c p w w') (k : Nat) (i : Int) (hi : i = (k : Int)) : Stands g a n c k w (w'.setCell ⟨g, 1, none⟩ (.int .i64 i)) := by
  subst hi
  refine ⟨?_, World.cell?_setCell_same _ _ _ h.pos, ?_, Below.setCell (p := ⟨g, 1, none⟩) h.below (Nat.le_refl _) _⟩
  · rw [World.cell?_setCell_other _ _ _ _ (by simp)]; exact h.data
  · rw [World.frozen?_setCell]; exact h.free
theorem posOf_stands {g : Nat} {a : Option Addr} {n c p : Nat} {w w' : World} (h : Stands g a n c p w w') : posOf g w' = p := by
  unfold posOf; rw [h.pos]; simp [intOf]

set_option maxHeartbeats 1000000 in
theorem next_any (g : Nat) (a : Option Addr) (l : List Int) (c p : Nat) (hn : l.length ≤ 1000000) (hp : p ≤ l.length) (w : World) (hl : At w a l) (hg : ∀ ad, a = some ad → ad.block < g) (hs : Stands g a l.length c p w w) :
    Calls Try.prog 12 #[.pointer (some ⟨g, 0, none⟩)] w fun e w' => e = .returned (.int .u8 (l.getD (nx l p) 0)) ∧ Stands g a l.length c (nx l p) w w' := by
  go_enter Try.func12, Try.ntmps12
  go_wp2
  go_loopw [3] (fun _ wr => ∃ k : Nat, k ≤ l.length ∧ Stands g a l.length c k w wr ∧ Hid (nx l p = nx l k)) (fun _ wr => l.length - posOf g wr)
  case atStart => exact ⟨p, hp, hs, rfl⟩
  case round =>
    obtain ⟨k, hk, ⟨r0, r1, r2, r3⟩, HK⟩ := hrel
    by_cases hlt : k < l.length
    · obtain ⟨b, off, rfl, hblt, hcell⟩ := at_byte hl hlt
      have hbg := hg _ rfl
      have hcell2 : wr.cell? ⟨b, off + k, none⟩ = some (.int .u8 (l.getD k 0)) := by rw [← hcell]; exact r3.cell (p := ⟨b, off + k, none⟩) hbg
      obtain ⟨x, hx⟩ : ∃ x, l.getD k 0 = x := ⟨_, rfl⟩
      rw [hx] at hcell2
      have HX : Hid (l.getD k 0 = x) := hx
      clear hx hcell
      have q1 : (0 : Int) ≤ (k : Int) := by omega
      have q2 : (k : Int) < (l.length : Int) := by omega
      go_wp2
      go_quiet (fail)
      go_wp2
      go_quiet (fail)
      have S : Hid (Stands g (some ⟨b, off, none⟩) l.length c k w wr) := ⟨r0, r1, r2, r3⟩
      cases e1 : (x == 32) <;> cases e2 : (x == 9) <;> cases e3 : (x == 10) <;> cases e4 : (x == 13)
      · have HM : Hid (nx l k = k) := nx_miss fun _ => by rw [HX.out, sp, e1, e2, e3, e4]; rfl
        go_wp2
        go_ret
        exact ⟨by rw [HK.out, HM.out, HX.out]; rfl, by rw [HK.out, HM.out]; exact stands_drew S.out _⟩
      all_goals
        have HM : Hid (nx l k = nx l (k + 1)) := nx_hit hlt (by rw [HX.out, sp, e1, e2, e3, e4]; rfl)
        go_wp2
        go_roundw
        case rel => exact ⟨k + 1, by omega, stands_set (stands_drew S.out _) (k + 1) _ (by omega), HK.out.trans HM.out⟩
        case measure =>
          rw [posOf_stands (stands_set (stands_drew S.out _) (k + 1) _ (by omega)), posOf_stands S.out]
          omega
    · have HM : Hid (nx l k = k) := nx_miss fun h => absurd h hlt
      have S : Hid (Stands g a l.length c k w wr) := ⟨r0, r1, r2, r3⟩
      have H0 : Hid (l.getD k 0 = 0) := by show l.getD k 0 = 0; simp [List.getD, hlt]
      go_wp2
      go_quiet (fail)
      go_wp2
      go_ret
      exact ⟨by rw [HK.out, HM.out, H0.out]; rfl, by rw [HK.out, HM.out]; exact stands_drew S.out _⟩
end Go.Proofs.Qxb6003628a.Walker

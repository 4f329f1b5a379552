import Derived.Test.Qxb6605415aRows
import Derived.WalkKit
import Derived.WalkSpells
import Derived.WalkLawsBesides
import Derived.Outline
import Derived.Deep.QuietTactic
import Derived.BigQuiet
import Derived.Deep.RegionHeld3
import Derived.RowKit3
namespace Go.Proofs.Qxb6605415a.Stance
open Go.RowKit

/-- What 'covers' answers. -/
def cov (bc : Int) (bv : ByteArray) (c : Int) (v : ByteArray) : Bool := (v.toList == bv.toList) && decide (c ≤ bc)

theorem covers_any (bc c : Int) (bv v : ByteArray) (w : World) :
    Calls Try.prog 21 #[.agg #[.int .u32 bc, .string bv], .agg #[.int .u32 c, .string v]] w fun e w' => e = .returned (.bool (cov bc bv c v)) ∧ ∃ c1 c2 : Array Value, w' = (w.alloc (.cells c1 45)).alloc (.cells c2 45) := by
  go_enter Try.func21, Try.ntmps21
  go_wp2
  · go_ret
    exact ⟨by simp [cov, *], _, _, rfl⟩
  · go_ret
    exact ⟨by simp [cov, *], _, _, rfl⟩


set_option linter.unusedSimpArgs false
set_option linter.unusedSimpArgs false
set_option linter.unusedSimpArgs false
/-- What 'prepareStance' answers. -/
def st (k bc : Int) (bv : ByteArray) (pc : Int) (pv : ByteArray) (ac hc : Int) (hp : Bool) (c : Int) (v : ByteArray) : Int :=
  if k = 1 then (if (hp && cov pc pv c v) = true ∨ c < ac ∨ (hp = true ∧ c = ac ∧ Op.bytesLess v.toList pv.toList = true) ∨ (0 < hc ∧ cov hc bv c v = true) then 2 else if cov bc bv c v = true then 1 else 0)
  else if k = 2 then (if (v.toList == bv.toList) = false then 0 else if c ≤ max pc hc then 2 else 1)
  else if k = 3 then (if (v.toList == bv.toList) = true then 2 else 0)
  else 0
theorem ret_int {k : IntKind} {a b : Int} (h : a = b) : Ending.returned (.int k a) = .returned (.int k b) := by rw [h]

set_option maxHeartbeats 8000000 in
theorem zz1_t (bc pc ac hc cc c : Int) (bv pv v : ByteArray) (w : World) :
    Calls Try.prog 14 #[.int .u8 1, .int .u32 bc, .string bv, .int .u32 pc, .string pv, .int .u32 ac, .int .u32 hc, .int .u32 cc, .bool true, .int .u32 c, .string v] w fun e w' => e = .returned (.int .i64 (st 1 bc bv pc pv ac hc true c v)) ∧ Grown w w' := by
  go_enter Try.func14, Try.ntmps14
  go_wp2
  cases hA : cov pc pv c v
  · go_region_held3 (fun w' => w'.cell? ⟨w.heap.size, 0, none⟩ = some (.int .u32 bc) ∧ w'.cell? ⟨w.heap.size, 1, none⟩ = some (.string bv) ∧ w'.cell? ⟨w.heap.size, 2, none⟩ = some (.int .u32 pc) ∧ w'.cell? ⟨w.heap.size, 3, none⟩ = some (.string pv) ∧ w'.cell? ⟨w.heap.size, 4, none⟩ = some (.int .u32 ac) ∧ w'.cell? ⟨w.heap.size, 5, none⟩ = some (.int .u32 hc) ∧ w'.cell? ⟨w.heap.size, 6, none⟩ = some (.int .u32 cc) ∧ w'.cell? ⟨w.heap.size, 7, none⟩ = some (.int .u8 1) ∧ w'.cell? ⟨w.heap.size, 8, none⟩ = some (.bool true) ∧ w'.cell? ⟨w.heap.size + 1, 0, none⟩ = some (.int .u32 c) ∧ w'.cell? ⟨w.heap.size + 1, 1, none⟩ = some (.string v)) (simp [go_sem, World.cell?_alloc_past]) (first | (go_at_call 21; refine (covers_any pc c pv v _).mono ?_; rintro e w' ⟨rfl, o1, o2, rfl⟩))
    go_wp2
    by_cases hB : c < ac
    · go_quiet (fail)
      go_wp2
      go_ret
      exact ⟨ret_int (by simp [st, hA, hB]), by repeat (first | exact Grown.refl _ | apply Grown.drew | apply Grown.alloc)⟩
    · go_quiet (fail)
      go_wp2
      cases hC : (c == ac)
      · have hC1 : c ≠ ac := by simpa using hC
        go_quiet (fail)
        go_wp2
        cases hH : decide (0 < hc)
        · go_quiet (fail)
          go_wp2
          cases hE : cov bc bv c v
          · go_region_held3 (fun w' => w'.cell? ⟨w.heap.size, 0, none⟩ = some (.int .u32 bc) ∧ w'.cell? ⟨w.heap.size, 1, none⟩ = some (.string bv) ∧ w'.cell? ⟨w.heap.size, 2, none⟩ = some (.int .u32 pc) ∧ w'.cell? ⟨w.heap.size, 3, none⟩ = some (.string pv) ∧ w'.cell? ⟨w.heap.size, 4, none⟩ = some (.int .u32 ac) ∧ w'.cell? ⟨w.heap.size, 5, none⟩ = some (.int .u32 hc) ∧ w'.cell? ⟨w.heap.size, 6, none⟩ = some (.int .u32 cc) ∧ w'.cell? ⟨w.heap.size, 7, none⟩ = some (.int .u8 1) ∧ w'.cell? ⟨w.heap.size, 8, none⟩ = some (.bool true) ∧ w'.cell? ⟨w.heap.size + 1, 0, none⟩ = some (.int .u32 c) ∧ w'.cell? ⟨w.heap.size + 1, 1, none⟩ = some (.string v)) (simp [go_sem, World.cell?_alloc_past]) (first | (go_at_call 21; refine (covers_any bc c bv v _).mono ?_; rintro e w' ⟨rfl, o1, o2, rfl⟩))
            go_wp2
            go_ret
            exact ⟨ret_int (by simp [st, hA, hB, hC1, of_decide_eq_false hH, hE]), by repeat (first | exact Grown.refl _ | apply Grown.drew | apply Grown.alloc)⟩
          · go_region_held3 (fun w' => w'.cell? ⟨w.heap.size, 0, none⟩ = some (.int .u32 bc) ∧ w'.cell? ⟨w.heap.size, 1, none⟩ = some (.string bv) ∧ w'.cell? ⟨w.heap.size, 2, none⟩ = some (.int .u32 pc) ∧ w'.cell? ⟨w.heap.size, 3, none⟩ = some (.string pv) ∧ w'.cell? ⟨w.heap.size, 4, none⟩ = some (.int .u32 ac) ∧ w'.cell? ⟨w.heap.size, 5, none⟩ = some (.int .u32 hc) ∧ w'.cell? ⟨w.heap.size, 6, none⟩ = some (.int .u32 cc) ∧ w'.cell? ⟨w.heap.size, 7, none⟩ = some (.int .u8 1) ∧ w'.cell? ⟨w.heap.size, 8, none⟩ = some (.bool true) ∧ w'.cell? ⟨w.heap.size + 1, 0, none⟩ = some (.int .u32 c) ∧ w'.cell? ⟨w.heap.size + 1, 1, none⟩ = some (.string v)) (simp [go_sem, World.cell?_alloc_past]) (first | (go_at_call 21; refine (covers_any bc c bv v _).mono ?_; rintro e w' ⟨rfl, o1, o2, rfl⟩))
            go_wp2
            go_ret
            exact ⟨ret_int (by simp [st, hA, hB, hC1, of_decide_eq_false hH, hE]), by repeat (first | exact Grown.refl _ | apply Grown.drew | apply Grown.alloc)⟩
        · have hH1 : 0 < hc := of_decide_eq_true hH
          cases hD : cov hc bv c v
          · go_region_held3 (fun w' => w'.cell? ⟨w.heap.size, 0, none⟩ = some (.int .u32 bc) ∧ w'.cell? ⟨w.heap.size, 1, none⟩ = some (.string bv) ∧ w'.cell? ⟨w.heap.size, 2, none⟩ = some (.int .u32 pc) ∧ w'.cell? ⟨w.heap.size, 3, none⟩ = some (.string pv) ∧ w'.cell? ⟨w.heap.size, 4, none⟩ = some (.int .u32 ac) ∧ w'.cell? ⟨w.heap.size, 5, none⟩ = some (.int .u32 hc) ∧ w'.cell? ⟨w.heap.size, 6, none⟩ = some (.int .u32 cc) ∧ w'.cell? ⟨w.heap.size, 7, none⟩ = some (.int .u8 1) ∧ w'.cell? ⟨w.heap.size, 8, none⟩ = some (.bool true) ∧ w'.cell? ⟨w.heap.size + 1, 0, none⟩ = some (.int .u32 c) ∧ w'.cell? ⟨w.heap.size + 1, 1, none⟩ = some (.string v)) (simp [go_sem, World.cell?_alloc_past]) (first | (go_at_call 21; refine (covers_any hc c bv v _).mono ?_; rintro e w' ⟨rfl, o1, o2, rfl⟩))
            go_wp2
            cases hE : cov bc bv c v
            · go_region_held3 (fun w' => w'.cell? ⟨w.heap.size, 0, none⟩ = some (.int .u32 bc) ∧ w'.cell? ⟨w.heap.size, 1, none⟩ = some (.string bv) ∧ w'.cell? ⟨w.heap.size, 2, none⟩ = some (.int .u32 pc) ∧ w'.cell? ⟨w.heap.size, 3, none⟩ = some (.string pv) ∧ w'.cell? ⟨w.heap.size, 4, none⟩ = some (.int .u32 ac) ∧ w'.cell? ⟨w.heap.size, 5, none⟩ = some (.int .u32 hc) ∧ w'.cell? ⟨w.heap.size, 6, none⟩ = some (.int .u32 cc) ∧ w'.cell? ⟨w.heap.size, 7, none⟩ = some (.int .u8 1) ∧ w'.cell? ⟨w.heap.size, 8, none⟩ = some (.bool true) ∧ w'.cell? ⟨w.heap.size + 1, 0, none⟩ = some (.int .u32 c) ∧ w'.cell? ⟨w.heap.size + 1, 1, none⟩ = some (.string v)) (simp [go_sem, World.cell?_alloc_past]) (first | (go_at_call 21; refine (covers_any bc c bv v _).mono ?_; rintro e w' ⟨rfl, o1, o2, rfl⟩))
              go_wp2
              go_ret
              exact ⟨ret_int (by simp [st, hA, hB, hC1, hH1, hD, hE]), by repeat (first | exact Grown.refl _ | apply Grown.drew | apply Grown.alloc)⟩
            · go_region_held3 (fun w' => w'.cell? ⟨w.heap.size, 0, none⟩ = some (.int .u32 bc) ∧ w'.cell? ⟨w.heap.size, 1, none⟩ = some (.string bv) ∧ w'.cell? ⟨w.heap.size, 2, none⟩ = some (.int .u32 pc) ∧ w'.cell? ⟨w.heap.size, 3, none⟩ = some (.string pv) ∧ w'.cell? ⟨w.heap.size, 4, none⟩ = some (.int .u32 ac) ∧ w'.cell? ⟨w.heap.size, 5, none⟩ = some (.int .u32 hc) ∧ w'.cell? ⟨w.heap.size, 6, none⟩ = some (.int .u32 cc) ∧ w'.cell? ⟨w.heap.size, 7, none⟩ = some (.int .u8 1) ∧ w'.cell? ⟨w.heap.size, 8, none⟩ = some (.bool true) ∧ w'.cell? ⟨w.heap.size + 1, 0, none⟩ = some (.int .u32 c) ∧ w'.cell? ⟨w.heap.size + 1, 1, none⟩ = some (.string v)) (simp [go_sem, World.cell?_alloc_past]) (first | (go_at_call 21; refine (covers_any bc c bv v _).mono ?_; rintro e w' ⟨rfl, o1, o2, rfl⟩))
              go_wp2
              go_ret
              exact ⟨ret_int (by simp [st, hA, hB, hC1, hH1, hD, hE]), by repeat (first | exact Grown.refl _ | apply Grown.drew | apply Grown.alloc)⟩
          · go_region_held3 (fun w' => w'.cell? ⟨w.heap.size, 0, none⟩ = some (.int .u32 bc) ∧ w'.cell? ⟨w.heap.size, 1, none⟩ = some (.string bv) ∧ w'.cell? ⟨w.heap.size, 2, none⟩ = some (.int .u32 pc) ∧ w'.cell? ⟨w.heap.size, 3, none⟩ = some (.string pv) ∧ w'.cell? ⟨w.heap.size, 4, none⟩ = some (.int .u32 ac) ∧ w'.cell? ⟨w.heap.size, 5, none⟩ = some (.int .u32 hc) ∧ w'.cell? ⟨w.heap.size, 6, none⟩ = some (.int .u32 cc) ∧ w'.cell? ⟨w.heap.size, 7, none⟩ = some (.int .u8 1) ∧ w'.cell? ⟨w.heap.size, 8, none⟩ = some (.bool true) ∧ w'.cell? ⟨w.heap.size + 1, 0, none⟩ = some (.int .u32 c) ∧ w'.cell? ⟨w.heap.size + 1, 1, none⟩ = some (.string v)) (simp [go_sem, World.cell?_alloc_past]) (first | (go_at_call 21; refine (covers_any hc c bv v _).mono ?_; rintro e w' ⟨rfl, o1, o2, rfl⟩))
            go_wp2
            go_ret
            exact ⟨ret_int (by simp [st, hA, hB, hC1, hH1, hD]), by repeat (first | exact Grown.refl _ | apply Grown.drew | apply Grown.alloc)⟩
      · have hC1 : c = ac := by simpa using hC
        subst hC1
        clear hC
        cases hL : Op.bytesLess v.toList pv.toList
        · go_quiet (fail)
          go_wp2
          cases hH : decide (0 < hc)
          · go_quiet (fail)
            go_wp2
            cases hE : cov bc bv c v
            · go_region_held3 (fun w' => w'.cell? ⟨w.heap.size, 0, none⟩ = some (.int .u32 bc) ∧ w'.cell? ⟨w.heap.size, 1, none⟩ = some (.string bv) ∧ w'.cell? ⟨w.heap.size, 2, none⟩ = some (.int .u32 pc) ∧ w'.cell? ⟨w.heap.size, 3, none⟩ = some (.string pv) ∧ w'.cell? ⟨w.heap.size, 4, none⟩ = some (.int .u32 c) ∧ w'.cell? ⟨w.heap.size, 5, none⟩ = some (.int .u32 hc) ∧ w'.cell? ⟨w.heap.size, 6, none⟩ = some (.int .u32 cc) ∧ w'.cell? ⟨w.heap.size, 7, none⟩ = some (.int .u8 1) ∧ w'.cell? ⟨w.heap.size, 8, none⟩ = some (.bool true) ∧ w'.cell? ⟨w.heap.size + 1, 0, none⟩ = some (.int .u32 c) ∧ w'.cell? ⟨w.heap.size + 1, 1, none⟩ = some (.string v)) (simp [go_sem, World.cell?_alloc_past]) (first | (go_at_call 21; refine (covers_any bc c bv v _).mono ?_; rintro e w' ⟨rfl, o1, o2, rfl⟩))
              go_wp2
              go_ret
              exact ⟨ret_int (by simp [st, hA, hB, hL, of_decide_eq_false hH, hE]), by repeat (first | exact Grown.refl _ | apply Grown.drew | apply Grown.alloc)⟩
            · go_region_held3 (fun w' => w'.cell? ⟨w.heap.size, 0, none⟩ = some (.int .u32 bc) ∧ w'.cell? ⟨w.heap.size, 1, none⟩ = some (.string bv) ∧ w'.cell? ⟨w.heap.size, 2, none⟩ = some (.int .u32 pc) ∧ w'.cell? ⟨w.heap.size, 3, none⟩ = some (.string pv) ∧ w'.cell? ⟨w.heap.size, 4, none⟩ = some (.int .u32 c) ∧ w'.cell? ⟨w.heap.size, 5, none⟩ = some (.int .u32 hc) ∧ w'.cell? ⟨w.heap.size, 6, none⟩ = some (.int .u32 cc) ∧ w'.cell? ⟨w.heap.size, 7, none⟩ = some (.int .u8 1) ∧ w'.cell? ⟨w.heap.size, 8, none⟩ = some (.bool true) ∧ w'.cell? ⟨w.heap.size + 1, 0, none⟩ = some (.int .u32 c) ∧ w'.cell? ⟨w.heap.size + 1, 1, none⟩ = some (.string v)) (simp [go_sem, World.cell?_alloc_past]) (first | (go_at_call 21; refine (covers_any bc c bv v _).mono ?_; rintro e w' ⟨rfl, o1, o2, rfl⟩))
              go_wp2
              go_ret
              exact ⟨ret_int (by simp [st, hA, hB, hL, of_decide_eq_false hH, hE]), by repeat (first | exact Grown.refl _ | apply Grown.drew | apply Grown.alloc)⟩
          · have hH1 : 0 < hc := of_decide_eq_true hH
            cases hD : cov hc bv c v
            · go_region_held3 (fun w' => w'.cell? ⟨w.heap.size, 0, none⟩ = some (.int .u32 bc) ∧ w'.cell? ⟨w.heap.size, 1, none⟩ = some (.string bv) ∧ w'.cell? ⟨w.heap.size, 2, none⟩ = some (.int .u32 pc) ∧ w'.cell? ⟨w.heap.size, 3, none⟩ = some (.string pv) ∧ w'.cell? ⟨w.heap.size, 4, none⟩ = some (.int .u32 c) ∧ w'.cell? ⟨w.heap.size, 5, none⟩ = some (.int .u32 hc) ∧ w'.cell? ⟨w.heap.size, 6, none⟩ = some (.int .u32 cc) ∧ w'.cell? ⟨w.heap.size, 7, none⟩ = some (.int .u8 1) ∧ w'.cell? ⟨w.heap.size, 8, none⟩ = some (.bool true) ∧ w'.cell? ⟨w.heap.size + 1, 0, none⟩ = some (.int .u32 c) ∧ w'.cell? ⟨w.heap.size + 1, 1, none⟩ = some (.string v)) (simp [go_sem, World.cell?_alloc_past]) (first | (go_at_call 21; refine (covers_any hc c bv v _).mono ?_; rintro e w' ⟨rfl, o1, o2, rfl⟩))
              go_wp2
              cases hE : cov bc bv c v
              · go_region_held3 (fun w' => w'.cell? ⟨w.heap.size, 0, none⟩ = some (.int .u32 bc) ∧ w'.cell? ⟨w.heap.size, 1, none⟩ = some (.string bv) ∧ w'.cell? ⟨w.heap.size, 2, none⟩ = some (.int .u32 pc) ∧ w'.cell? ⟨w.heap.size, 3, none⟩ = some (.string pv) ∧ w'.cell? ⟨w.heap.size, 4, none⟩ = some (.int .u32 c) ∧ w'.cell? ⟨w.heap.size, 5, none⟩ = some (.int .u32 hc) ∧ w'.cell? ⟨w.heap.size, 6, none⟩ = some (.int .u32 cc) ∧ w'.cell? ⟨w.heap.size, 7, none⟩ = some (.int .u8 1) ∧ w'.cell? ⟨w.heap.size, 8, none⟩ = some (.bool true) ∧ w'.cell? ⟨w.heap.size + 1, 0, none⟩ = some (.int .u32 c) ∧ w'.cell? ⟨w.heap.size + 1, 1, none⟩ = some (.string v)) (simp [go_sem, World.cell?_alloc_past]) (first | (go_at_call 21; refine (covers_any bc c bv v _).mono ?_; rintro e w' ⟨rfl, o1, o2, rfl⟩))
                go_wp2
                go_ret
                exact ⟨ret_int (by simp [st, hA, hB, hL, hH1, hD, hE]), by repeat (first | exact Grown.refl _ | apply Grown.drew | apply Grown.alloc)⟩
              · go_region_held3 (fun w' => w'.cell? ⟨w.heap.size, 0, none⟩ = some (.int .u32 bc) ∧ w'.cell? ⟨w.heap.size, 1, none⟩ = some (.string bv) ∧ w'.cell? ⟨w.heap.size, 2, none⟩ = some (.int .u32 pc) ∧ w'.cell? ⟨w.heap.size, 3, none⟩ = some (.string pv) ∧ w'.cell? ⟨w.heap.size, 4, none⟩ = some (.int .u32 c) ∧ w'.cell? ⟨w.heap.size, 5, none⟩ = some (.int .u32 hc) ∧ w'.cell? ⟨w.heap.size, 6, none⟩ = some (.int .u32 cc) ∧ w'.cell? ⟨w.heap.size, 7, none⟩ = some (.int .u8 1) ∧ w'.cell? ⟨w.heap.size, 8, none⟩ = some (.bool true) ∧ w'.cell? ⟨w.heap.size + 1, 0, none⟩ = some (.int .u32 c) ∧ w'.cell? ⟨w.heap.size + 1, 1, none⟩ = some (.string v)) (simp [go_sem, World.cell?_alloc_past]) (first | (go_at_call 21; refine (covers_any bc c bv v _).mono ?_; rintro e w' ⟨rfl, o1, o2, rfl⟩))
                go_wp2
                go_ret
                exact ⟨ret_int (by simp [st, hA, hB, hL, hH1, hD, hE]), by repeat (first | exact Grown.refl _ | apply Grown.drew | apply Grown.alloc)⟩
            · go_region_held3 (fun w' => w'.cell? ⟨w.heap.size, 0, none⟩ = some (.int .u32 bc) ∧ w'.cell? ⟨w.heap.size, 1, none⟩ = some (.string bv) ∧ w'.cell? ⟨w.heap.size, 2, none⟩ = some (.int .u32 pc) ∧ w'.cell? ⟨w.heap.size, 3, none⟩ = some (.string pv) ∧ w'.cell? ⟨w.heap.size, 4, none⟩ = some (.int .u32 c) ∧ w'.cell? ⟨w.heap.size, 5, none⟩ = some (.int .u32 hc) ∧ w'.cell? ⟨w.heap.size, 6, none⟩ = some (.int .u32 cc) ∧ w'.cell? ⟨w.heap.size, 7, none⟩ = some (.int .u8 1) ∧ w'.cell? ⟨w.heap.size, 8, none⟩ = some (.bool true) ∧ w'.cell? ⟨w.heap.size + 1, 0, none⟩ = some (.int .u32 c) ∧ w'.cell? ⟨w.heap.size + 1, 1, none⟩ = some (.string v)) (simp [go_sem, World.cell?_alloc_past]) (first | (go_at_call 21; refine (covers_any hc c bv v _).mono ?_; rintro e w' ⟨rfl, o1, o2, rfl⟩))
              go_wp2
              go_ret
              exact ⟨ret_int (by simp [st, hA, hB, hL, hH1, hD]), by repeat (first | exact Grown.refl _ | apply Grown.drew | apply Grown.alloc)⟩
        · go_quiet (fail)
          go_wp2
          go_ret
          exact ⟨ret_int (by simp [st, hA, hB, hL]), by repeat (first | exact Grown.refl _ | apply Grown.drew | apply Grown.alloc)⟩
  · go_region_held3 (fun w' => w'.cell? ⟨w.heap.size, 0, none⟩ = some (.int .u32 bc) ∧ w'.cell? ⟨w.heap.size, 1, none⟩ = some (.string bv) ∧ w'.cell? ⟨w.heap.size, 2, none⟩ = some (.int .u32 pc) ∧ w'.cell? ⟨w.heap.size, 3, none⟩ = some (.string pv) ∧ w'.cell? ⟨w.heap.size, 4, none⟩ = some (.int .u32 ac) ∧ w'.cell? ⟨w.heap.size, 5, none⟩ = some (.int .u32 hc) ∧ w'.cell? ⟨w.heap.size, 6, none⟩ = some (.int .u32 cc) ∧ w'.cell? ⟨w.heap.size, 7, none⟩ = some (.int .u8 1) ∧ w'.cell? ⟨w.heap.size, 8, none⟩ = some (.bool true) ∧ w'.cell? ⟨w.heap.size + 1, 0, none⟩ = some (.int .u32 c) ∧ w'.cell? ⟨w.heap.size + 1, 1, none⟩ = some (.string v)) (simp [go_sem, World.cell?_alloc_past]) (first | (go_at_call 21; refine (covers_any pc c pv v _).mono ?_; rintro e w' ⟨rfl, o1, o2, rfl⟩))
    go_wp2
    go_ret
    exact ⟨ret_int (by simp [st, hA]), by repeat (first | exact Grown.refl _ | apply Grown.drew | apply Grown.alloc)⟩

set_option maxHeartbeats 8000000 in
theorem zz1_f (bc pc ac hc cc c : Int) (bv pv v : ByteArray) (w : World) :
    Calls Try.prog 14 #[.int .u8 1, .int .u32 bc, .string bv, .int .u32 pc, .string pv, .int .u32 ac, .int .u32 hc, .int .u32 cc, .bool false, .int .u32 c, .string v] w fun e w' => e = .returned (.int .i64 (st 1 bc bv pc pv ac hc false c v)) ∧ Grown w w' := by
  go_enter Try.func14, Try.ntmps14
  go_wp2
  go_quiet (fail)
  go_wp2
  by_cases hB : c < ac
  · go_quiet (fail)
    go_wp2
    go_ret
    exact ⟨ret_int (by simp [st, hB]), by repeat (first | exact Grown.refl _ | apply Grown.drew | apply Grown.alloc)⟩
  · go_quiet (fail)
    go_wp2
    go_quiet (fail)
    go_wp2
    cases hH : decide (0 < hc)
    · go_quiet (fail)
      go_wp2
      cases hE : cov bc bv c v
      · go_region_held3 (fun w' => w'.cell? ⟨w.heap.size, 0, none⟩ = some (.int .u32 bc) ∧ w'.cell? ⟨w.heap.size, 1, none⟩ = some (.string bv) ∧ w'.cell? ⟨w.heap.size, 2, none⟩ = some (.int .u32 pc) ∧ w'.cell? ⟨w.heap.size, 3, none⟩ = some (.string pv) ∧ w'.cell? ⟨w.heap.size, 4, none⟩ = some (.int .u32 ac) ∧ w'.cell? ⟨w.heap.size, 5, none⟩ = some (.int .u32 hc) ∧ w'.cell? ⟨w.heap.size, 6, none⟩ = some (.int .u32 cc) ∧ w'.cell? ⟨w.heap.size, 7, none⟩ = some (.int .u8 1) ∧ w'.cell? ⟨w.heap.size, 8, none⟩ = some (.bool false) ∧ w'.cell? ⟨w.heap.size + 1, 0, none⟩ = some (.int .u32 c) ∧ w'.cell? ⟨w.heap.size + 1, 1, none⟩ = some (.string v)) (simp [go_sem, World.cell?_alloc_past]) (first | (go_at_call 21; refine (covers_any bc c bv v _).mono ?_; rintro e w' ⟨rfl, o1, o2, rfl⟩))
        go_wp2
        go_ret
        exact ⟨ret_int (by simp [st, hB, of_decide_eq_false hH, hE]), by repeat (first | exact Grown.refl _ | apply Grown.drew | apply Grown.alloc)⟩
      · go_region_held3 (fun w' => w'.cell? ⟨w.heap.size, 0, none⟩ = some (.int .u32 bc) ∧ w'.cell? ⟨w.heap.size, 1, none⟩ = some (.string bv) ∧ w'.cell? ⟨w.heap.size, 2, none⟩ = some (.int .u32 pc) ∧ w'.cell? ⟨w.heap.size, 3, none⟩ = some (.string pv) ∧ w'.cell? ⟨w.heap.size, 4, none⟩ = some (.int .u32 ac) ∧ w'.cell? ⟨w.heap.size, 5, none⟩ = some (.int .u32 hc) ∧ w'.cell? ⟨w.heap.size, 6, none⟩ = some (.int .u32 cc) ∧ w'.cell? ⟨w.heap.size, 7, none⟩ = some (.int .u8 1) ∧ w'.cell? ⟨w.heap.size, 8, none⟩ = some (.bool false) ∧ w'.cell? ⟨w.heap.size + 1, 0, none⟩ = some (.int .u32 c) ∧ w'.cell? ⟨w.heap.size + 1, 1, none⟩ = some (.string v)) (simp [go_sem, World.cell?_alloc_past]) (first | (go_at_call 21; refine (covers_any bc c bv v _).mono ?_; rintro e w' ⟨rfl, o1, o2, rfl⟩))
        go_wp2
        go_ret
        exact ⟨ret_int (by simp [st, hB, of_decide_eq_false hH, hE]), by repeat (first | exact Grown.refl _ | apply Grown.drew | apply Grown.alloc)⟩
    · have hH1 : 0 < hc := of_decide_eq_true hH
      cases hD : cov hc bv c v
      · go_region_held3 (fun w' => w'.cell? ⟨w.heap.size, 0, none⟩ = some (.int .u32 bc) ∧ w'.cell? ⟨w.heap.size, 1, none⟩ = some (.string bv) ∧ w'.cell? ⟨w.heap.size, 2, none⟩ = some (.int .u32 pc) ∧ w'.cell? ⟨w.heap.size, 3, none⟩ = some (.string pv) ∧ w'.cell? ⟨w.heap.size, 4, none⟩ = some (.int .u32 ac) ∧ w'.cell? ⟨w.heap.size, 5, none⟩ = some (.int .u32 hc) ∧ w'.cell? ⟨w.heap.size, 6, none⟩ = some (.int .u32 cc) ∧ w'.cell? ⟨w.heap.size, 7, none⟩ = some (.int .u8 1) ∧ w'.cell? ⟨w.heap.size, 8, none⟩ = some (.bool false) ∧ w'.cell? ⟨w.heap.size + 1, 0, none⟩ = some (.int .u32 c) ∧ w'.cell? ⟨w.heap.size + 1, 1, none⟩ = some (.string v)) (simp [go_sem, World.cell?_alloc_past]) (first | (go_at_call 21; refine (covers_any hc c bv v _).mono ?_; rintro e w' ⟨rfl, o1, o2, rfl⟩))
        go_wp2
        cases hE : cov bc bv c v
        · go_region_held3 (fun w' => w'.cell? ⟨w.heap.size, 0, none⟩ = some (.int .u32 bc) ∧ w'.cell? ⟨w.heap.size, 1, none⟩ = some (.string bv) ∧ w'.cell? ⟨w.heap.size, 2, none⟩ = some (.int .u32 pc) ∧ w'.cell? ⟨w.heap.size, 3, none⟩ = some (.string pv) ∧ w'.cell? ⟨w.heap.size, 4, none⟩ = some (.int .u32 ac) ∧ w'.cell? ⟨w.heap.size, 5, none⟩ = some (.int .u32 hc) ∧ w'.cell? ⟨w.heap.size, 6, none⟩ = some (.int .u32 cc) ∧ w'.cell? ⟨w.heap.size, 7, none⟩ = some (.int .u8 1) ∧ w'.cell? ⟨w.heap.size, 8, none⟩ = some (.bool false) ∧ w'.cell? ⟨w.heap.size + 1, 0, none⟩ = some (.int .u32 c) ∧ w'.cell? ⟨w.heap.size + 1, 1, none⟩ = some (.string v)) (simp [go_sem, World.cell?_alloc_past]) (first | (go_at_call 21; refine (covers_any bc c bv v _).mono ?_; rintro e w' ⟨rfl, o1, o2, rfl⟩))
          go_wp2
          go_ret
          exact ⟨ret_int (by simp [st, hB, hH1, hD, hE]), by repeat (first | exact Grown.refl _ | apply Grown.drew | apply Grown.alloc)⟩
        · go_region_held3 (fun w' => w'.cell? ⟨w.heap.size, 0, none⟩ = some (.int .u32 bc) ∧ w'.cell? ⟨w.heap.size, 1, none⟩ = some (.string bv) ∧ w'.cell? ⟨w.heap.size, 2, none⟩ = some (.int .u32 pc) ∧ w'.cell? ⟨w.heap.size, 3, none⟩ = some (.string pv) ∧ w'.cell? ⟨w.heap.size, 4, none⟩ = some (.int .u32 ac) ∧ w'.cell? ⟨w.heap.size, 5, none⟩ = some (.int .u32 hc) ∧ w'.cell? ⟨w.heap.size, 6, none⟩ = some (.int .u32 cc) ∧ w'.cell? ⟨w.heap.size, 7, none⟩ = some (.int .u8 1) ∧ w'.cell? ⟨w.heap.size, 8, none⟩ = some (.bool false) ∧ w'.cell? ⟨w.heap.size + 1, 0, none⟩ = some (.int .u32 c) ∧ w'.cell? ⟨w.heap.size + 1, 1, none⟩ = some (.string v)) (simp [go_sem, World.cell?_alloc_past]) (first | (go_at_call 21; refine (covers_any bc c bv v _).mono ?_; rintro e w' ⟨rfl, o1, o2, rfl⟩))
          go_wp2
          go_ret
          exact ⟨ret_int (by simp [st, hB, hH1, hD, hE]), by repeat (first | exact Grown.refl _ | apply Grown.drew | apply Grown.alloc)⟩
      · go_region_held3 (fun w' => w'.cell? ⟨w.heap.size, 0, none⟩ = some (.int .u32 bc) ∧ w'.cell? ⟨w.heap.size, 1, none⟩ = some (.string bv) ∧ w'.cell? ⟨w.heap.size, 2, none⟩ = some (.int .u32 pc) ∧ w'.cell? ⟨w.heap.size, 3, none⟩ = some (.string pv) ∧ w'.cell? ⟨w.heap.size, 4, none⟩ = some (.int .u32 ac) ∧ w'.cell? ⟨w.heap.size, 5, none⟩ = some (.int .u32 hc) ∧ w'.cell? ⟨w.heap.size, 6, none⟩ = some (.int .u32 cc) ∧ w'.cell? ⟨w.heap.size, 7, none⟩ = some (.int .u8 1) ∧ w'.cell? ⟨w.heap.size, 8, none⟩ = some (.bool false) ∧ w'.cell? ⟨w.heap.size + 1, 0, none⟩ = some (.int .u32 c) ∧ w'.cell? ⟨w.heap.size + 1, 1, none⟩ = some (.string v)) (simp [go_sem, World.cell?_alloc_past]) (first | (go_at_call 21; refine (covers_any hc c bv v _).mono ?_; rintro e w' ⟨rfl, o1, o2, rfl⟩))
        go_wp2
        go_ret
        exact ⟨ret_int (by simp [st, hB, hH1, hD]), by repeat (first | exact Grown.refl _ | apply Grown.drew | apply Grown.alloc)⟩

set_option maxHeartbeats 8000000 in
theorem zz2 (bc pc ac hc cc c : Int) (bv pv v : ByteArray) (hp : Bool) (w : World) :
    Calls Try.prog 14 #[.int .u8 2, .int .u32 bc, .string bv, .int .u32 pc, .string pv, .int .u32 ac, .int .u32 hc, .int .u32 cc, .bool hp, .int .u32 c, .string v] w fun e w' => e = .returned (.int .i64 (st 2 bc bv pc pv ac hc hp c v)) ∧ Grown w w' := by
  go_enter Try.func14, Try.ntmps14
  go_wp2
  cases hV : (v.toList == bv.toList)
  · go_quiet (fail)
    go_wp2
    go_ret
    exact ⟨ret_int (by simp [st, hV]), by repeat (first | exact Grown.refl _ | apply Grown.drew | apply Grown.alloc)⟩
  · go_quiet (fail)
    go_wp2
    have eV : v.toList = bv.toList := by simpa using hV
    by_cases hm : pc < hc
    · by_cases hc2 : c ≤ hc
      · have hst : st 2 bc bv pc pv ac hc hp c v = 2 := by simp [st, eV]; omega
        go_region
        all_goals (go_wp2; go_ret; exact ⟨ret_int (by first | rfl | exact hst.symm), by repeat (first | exact Grown.refl _ | apply Grown.drew | apply Grown.alloc)⟩)
      · have hst : st 2 bc bv pc pv ac hc hp c v = 1 := by simp [st, eV]; omega
        go_region
        all_goals (go_wp2; go_ret; exact ⟨ret_int (by first | rfl | exact hst.symm), by repeat (first | exact Grown.refl _ | apply Grown.drew | apply Grown.alloc)⟩)
    · by_cases hc2 : c ≤ pc
      · have hst : st 2 bc bv pc pv ac hc hp c v = 2 := by simp [st, eV]; omega
        go_region
        all_goals (go_wp2; go_ret; exact ⟨ret_int (by first | rfl | exact hst.symm), by repeat (first | exact Grown.refl _ | apply Grown.drew | apply Grown.alloc)⟩)
      · have hst : st 2 bc bv pc pv ac hc hp c v = 1 := by simp [st, eV]; omega
        go_region
        all_goals (go_wp2; go_ret; exact ⟨ret_int (by first | rfl | exact hst.symm), by repeat (first | exact Grown.refl _ | apply Grown.drew | apply Grown.alloc)⟩)

set_option maxHeartbeats 8000000 in
theorem zz3 (bc pc ac hc cc c : Int) (bv pv v : ByteArray) (hp : Bool) (w : World) :
    Calls Try.prog 14 #[.int .u8 3, .int .u32 bc, .string bv, .int .u32 pc, .string pv, .int .u32 ac, .int .u32 hc, .int .u32 cc, .bool hp, .int .u32 c, .string v] w fun e w' => e = .returned (.int .i64 (st 3 bc bv pc pv ac hc hp c v)) ∧ Grown w w' := by
  go_enter Try.func14, Try.ntmps14
  go_wp2
  cases hV : (v.toList == bv.toList)
  · go_quiet (fail)
    go_wp2
    go_ret
    exact ⟨ret_int (by simp [st, hV]), by repeat (first | exact Grown.refl _ | apply Grown.drew | apply Grown.alloc)⟩
  · go_quiet (fail)
    go_wp2
    go_ret
    exact ⟨ret_int (by simp [st, hV]), by repeat (first | exact Grown.refl _ | apply Grown.drew | apply Grown.alloc)⟩

set_option maxHeartbeats 8000000 in
theorem zz0 (k : Int) (h1 : (k == 1) = false) (h2 : (k == 2) = false) (h3 : (k == 3) = false) (bc pc ac hc cc c : Int) (bv pv v : ByteArray) (hp : Bool) (w : World) :
    Calls Try.prog 14 #[.int .u8 k, .int .u32 bc, .string bv, .int .u32 pc, .string pv, .int .u32 ac, .int .u32 hc, .int .u32 cc, .bool hp, .int .u32 c, .string v] w fun e w' => e = .returned (.int .i64 (st k bc bv pc pv ac hc hp c v)) ∧ Grown w w' := by
  go_enter Try.func14, Try.ntmps14
  go_wp2
  go_ret
  simp at h1 h2 h3
  exact ⟨ret_int (by simp [st, h1, h2, h3]), by repeat (first | exact Grown.refl _ | apply Grown.drew | apply Grown.alloc)⟩

/-- 'ZZPrepareStance', at every input: its stance; nothing that was there is written. -/
theorem zz_any (k bc pc ac hc cc c : Int) (bv pv v : ByteArray) (hp : Bool) (w : World) :
    Calls Try.prog 14 #[.int .u8 k, .int .u32 bc, .string bv, .int .u32 pc, .string pv, .int .u32 ac, .int .u32 hc, .int .u32 cc, .bool hp, .int .u32 c, .string v] w fun e w' => e = .returned (.int .i64 (st k bc bv pc pv ac hc hp c v)) ∧ Grown w w' := by
  by_cases h1 : k = 1
  · subst h1
    cases hp
    · exact zz1_f bc pc ac hc cc c bv pv v w
    · exact zz1_t bc pc ac hc cc c bv pv v w
  by_cases h2 : k = 2
  · subst h2
    exact zz2 bc pc ac hc cc c bv pv v hp w
  by_cases h3 : k = 3
  · subst h3
    exact zz3 bc pc ac hc cc c bv pv v hp w
  exact zz0 k (by simpa using h1) (by simpa using h2) (by simpa using h3) bc pc ac hc cc c bv pv v hp w
end Go.Proofs.Qxb6605415a.Stance

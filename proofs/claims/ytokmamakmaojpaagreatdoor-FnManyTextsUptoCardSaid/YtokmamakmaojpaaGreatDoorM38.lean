/-
  K11. The specification: WriteWKT.
  K12. The specification: WriteWKT of every good geometry.
-/
import Derived.Test.YtokmamakmaojpaaGreatDoorM37
set_option linter.unusedVariables false
set_option linter.unusedSimpArgs false
set_option linter.unnecessarySimpa false
/- K11. -/
namespace Go.Proofs.YtokmamakmaojpaaGreatDoor
open Go.RowKit
attribute [local go_sem] no_yield

mutual
theorem layB_mono {m m' : Int} (h : m ≤ m') : ∀ g, layB m g = true → layB m' g = true
  | .mk k l s f e es kids, hg => by
    rw [layB, Bool.and_eq_true] at hg ⊢
    refine ⟨layBs_mono h kids hg.1, ?_⟩
    have := hg.2
    simp at this ⊢
    omega
theorem layBs_mono {m m' : Int} (h : m ≤ m') : ∀ l, layBs m l = true → layBs m' l = true
  | [], _ => rfl
  | g :: gs, hl => by
    rw [layBs, Bool.and_eq_true] at hl ⊢
    exact ⟨layB_mono h g hl.1, layBs_mono h gs hl.2⟩
end

set_option maxRecDepth 100000 in
set_option maxHeartbeats 4000000 in
theorem write7_0 (k l s : Int) (hk8 : k = 1 ∨ k = 2 ∨ k = 3 ∨ k = 4 ∨ k = 5 ∨ k = 6 ∨ k = 7 ∨ k = 8) (hk7 : k = 7) (A3 A4 A5 A6 : Option Addr) (n3 n4 n5 n6 c3 c4 c5 c6 : Nat) (w : World) (d : Int) (B : List UInt8) (hBl : B.length ≤ 140737488355328)
    (hlay : ∀ w', Below w.heap.size w w' → Calls Tryz.prog 15 #[.agg #[.int .i64 k, .int .i64 l, .int .i64 s, .slice A3 n3 c3, .slice A4 n4 c4, .slice A5 n5 c5, .slice A6 n6 c6]] w' (Ret (.int .i64 0) w'))
    (hbody : ∀ w', Below w.heap.size w w' → Calls Tryz.prog 16 #[.agg #[.int .i64 k, .int .i64 l, .int .i64 s, .slice A3 n3 c3, .slice A4 n4 c4, .slice A5 n5 c5, .slice A6 n6 c6], .int .i64 (strideF 0), .int .i64 d, .bool true] w' (BodyRet B w')) :
    Calls Tryz.prog 7 #[.agg #[.int .i64 k, .int .i64 l, .int .i64 s, .slice A3 n3 c3, .slice A4 n4 c4, .slice A5 n5 c5, .slice A6 n6 c6], .int .i64 d] w (BodyRet (nameT k ++ tagT 0 ++ B) w) := by
  have HLAY := Lib.hid hlay
  have HBODY := Lib.hid hbody
  have HNM := Lib.hid (fun w => kindName18 k hk8 w)
  have HST := Lib.hid (fun w => stride17 0 (by omega) (by omega) w)
  obtain ⟨S, hS⟩ : ∃ S, strideF 0 = S := ⟨_, rfl⟩
  rw [hS] at HBODY HST
  have HRES : Hid (nameT k ++ tagT 0 ++ B = nameS k ++ [32] ++ tagT 0 ++ B) := Lib.hid (by rw [nameT_eq])
  obtain ⟨N, hN⟩ : ∃ N, nameS k = N := ⟨_, rfl⟩
  have hNl : N.length ≤ 100 := by
    rw [← hN]
    rcases hk8 with rfl | rfl | rfl | rfl | rfl | rfl | rfl | rfl <;> decide
  rw [hN] at HRES HNM
  have q1 : ∀ w, (binOp .add 9 (.string ⟨N.toArray⟩) (.string ⟨#[32]⟩)).run Tryz.prog w = .ok (.string ⟨(N ++ [32]).toArray⟩) w := fun w => cat9 N [32] (by simp; omega) w
  have q2 : ∀ w, (binOp .add 9 (.string ⟨(N ++ [32]).toArray⟩) (.string ⟨#[]⟩)).run Tryz.prog w = .ok (.string ⟨(N ++ [32] ++ []).toArray⟩) w := fun w => cat9 _ [] (by simp; omega) w
  have q3 : ∀ w, (binOp .add 9 (.string ⟨(N ++ [32] ++ []).toArray⟩) (.string ⟨B.toArray⟩)).run Tryz.prog w = .ok (.string ⟨(N ++ [32] ++ [] ++ B).toArray⟩) w := fun w => cat9 _ B (by simp; omega) w
  clear hlay hbody hS hN 
  subst hk7
  go_enter Tryz.func7, Tryz.ntmps7
  go_upto_region 7 with (go_at_call 15; refine (HLAY.out _ ((Below.refl _ w).alloc (Nat.le_refl _) _)).mono ?_; rintro e1 w1 ⟨rfl, hB1⟩; obtain ⟨g0, g1, g2, g3, g4, g5, g6⟩ := box_cells hB1; have HB1 := Lib.hid hB1; clear hB1)
  have hbx1 : w1.heap[w.heap.size]? = some (.cells #[.int .i64 7, .int .i64 l, .int .i64 s, .slice A3 n3 c3, .slice A4 n4 c4, .slice A5 n5 c5, .slice A6 n6 c6] 28 (0, 0)) := (HB1.out.block _ (by simp)).trans (heap_alloc_new w _)
  have hbw1 : Below w.heap.size w w1 := ((Below.refl _ w).alloc (Nat.le_refl _) _).trans (HB1.out.mono (by simp))
  obtain ⟨W, hW⟩ : ∃ W, w1 = W := ⟨_, rfl⟩
  have hWb : W.heap[w.heap.size]? = some (.cells #[.int .i64 7, .int .i64 l, .int .i64 s, .slice A3 n3 c3, .slice A4 n4 c4, .slice A5 n5 c5, .slice A6 n6 c6] 28 (0, 0)) := by rw [← hW]; exact hbx1
  have hWB : Below w.heap.size w W := by rw [← hW]; exact hbw1
  rw [hW]
  clear hW hbx1 hbw1 HB1 g0 g1 g2 g3 g4 g5 g6
  obtain ⟨g0, g1, g2, g3, g4, g5, g6, _⟩ := seven_cells hWb
  have HWb := Lib.hid hWb
  have HWB := Lib.hid hWB
  have HLT : Hid (w.heap.size < W.drew.heap.size) := Lib.hid (lt_of_get hWb)
  clear hWb hWB
  go_region_held3 (fun w' => w'.cell? ⟨w.heap.size, 0, none⟩ = some (.int .i64 7) ∧ w'.cell? ⟨w.heap.size, 1, none⟩ = some (.int .i64 l) ∧ w'.cell? ⟨w.heap.size, 2, none⟩ = some (.int .i64 s) ∧ w'.cell? ⟨w.heap.size, 3, none⟩ = some (.slice A3 n3 c3) ∧ w'.cell? ⟨w.heap.size, 4, none⟩ = some (.slice A4 n4 c4) ∧ w'.cell? ⟨w.heap.size, 5, none⟩ = some (.slice A5 n5 c5) ∧ w'.cell? ⟨w.heap.size, 6, none⟩ = some (.slice A6 n6 c6)) (first | exact ⟨g0, g1, g2, g3, g4, g5, g6⟩ | exact ⟨p0, p1, p2, p3, p4, p5, p6⟩ | go_keep) (first | ((go_at_call 17; refine (HST.out _).mono ?_; rintro e2 w2 ⟨rfl, rfl⟩)) | ((go_at_call 16; refine (HBODY.out _ (below_drewN HWB.out 1)).mono ?_; rintro e2 w2 ⟨rfl, hB2⟩; obtain ⟨p0, p1, p2, p3, p4, p5, p6⟩ := old_cells (w := W.drew) HWb.out HLT.out hB2; have HB2 := Lib.hid hB2; clear hB2)))
  all_goals
    have HBF := Lib.hid (HWB.out.trans ((below_drewN (Below.refl W.heap.size W) 1).trans HB2.out |>.mono HWB.out.size))
    go_wp2_with (go_at_call 18; refine (HNM.out _).mono ?_; rintro e3 w3 ⟨rfl, rfl⟩)
    go_ret2
    refine ⟨?_, HBF.out⟩
    rw [HRES.out, show tagT 0 = [] from by decide, ← app_ba, ← app_ba, ← app_ba]
    rfl

set_option maxRecDepth 100000 in
set_option maxHeartbeats 4000000 in
theorem write7_1 (k l s : Int) (hk8 : k = 1 ∨ k = 2 ∨ k = 3 ∨ k = 4 ∨ k = 5 ∨ k = 6 ∨ k = 7 ∨ k = 8) (A3 A4 A5 A6 : Option Addr) (n3 n4 n5 n6 c3 c4 c5 c6 : Nat) (w : World) (d : Int) (B : List UInt8) (hBl : B.length ≤ 140737488355328)
    (hlay : ∀ w', Below w.heap.size w w' → Calls Tryz.prog 15 #[.agg #[.int .i64 k, .int .i64 l, .int .i64 s, .slice A3 n3 c3, .slice A4 n4 c4, .slice A5 n5 c5, .slice A6 n6 c6]] w' (Ret (.int .i64 1) w'))
    (hbody : ∀ w', Below w.heap.size w w' → Calls Tryz.prog 16 #[.agg #[.int .i64 k, .int .i64 l, .int .i64 s, .slice A3 n3 c3, .slice A4 n4 c4, .slice A5 n5 c5, .slice A6 n6 c6], .int .i64 (strideF 1), .int .i64 d, .bool true] w' (BodyRet B w')) :
    Calls Tryz.prog 7 #[.agg #[.int .i64 k, .int .i64 l, .int .i64 s, .slice A3 n3 c3, .slice A4 n4 c4, .slice A5 n5 c5, .slice A6 n6 c6], .int .i64 d] w (BodyRet (nameT k ++ tagT 1 ++ B) w) := by
  have HLAY := Lib.hid hlay
  have HBODY := Lib.hid hbody
  have HNM := Lib.hid (fun w => kindName18 k hk8 w)
  have HST := Lib.hid (fun w => stride17 1 (by omega) (by omega) w)
  obtain ⟨S, hS⟩ : ∃ S, strideF 1 = S := ⟨_, rfl⟩
  rw [hS] at HBODY HST
  have HRES : Hid (nameT k ++ tagT 1 ++ B = nameS k ++ [32] ++ tagT 1 ++ B) := Lib.hid (by rw [nameT_eq])
  obtain ⟨N, hN⟩ : ∃ N, nameS k = N := ⟨_, rfl⟩
  have hNl : N.length ≤ 100 := by
    rw [← hN]
    rcases hk8 with rfl | rfl | rfl | rfl | rfl | rfl | rfl | rfl <;> decide
  rw [hN] at HRES HNM
  have q1 : ∀ w, (binOp .add 9 (.string ⟨N.toArray⟩) (.string ⟨#[32]⟩)).run Tryz.prog w = .ok (.string ⟨(N ++ [32]).toArray⟩) w := fun w => cat9 N [32] (by simp; omega) w
  have q2 : ∀ w, (binOp .add 9 (.string ⟨(N ++ [32]).toArray⟩) (.string ⟨#[]⟩)).run Tryz.prog w = .ok (.string ⟨(N ++ [32] ++ []).toArray⟩) w := fun w => cat9 _ [] (by simp; omega) w
  have q3 : ∀ w, (binOp .add 9 (.string ⟨(N ++ [32] ++ []).toArray⟩) (.string ⟨B.toArray⟩)).run Tryz.prog w = .ok (.string ⟨(N ++ [32] ++ [] ++ B).toArray⟩) w := fun w => cat9 _ B (by simp; omega) w
  clear hlay hbody hS hN hk8
  skip
  go_enter Tryz.func7, Tryz.ntmps7
  go_upto_region 7 with (go_at_call 15; refine (HLAY.out _ ((Below.refl _ w).alloc (Nat.le_refl _) _)).mono ?_; rintro e1 w1 ⟨rfl, hB1⟩; obtain ⟨g0, g1, g2, g3, g4, g5, g6⟩ := box_cells hB1; have HB1 := Lib.hid hB1; clear hB1)
  have hbx1 : w1.heap[w.heap.size]? = some (.cells #[.int .i64 k, .int .i64 l, .int .i64 s, .slice A3 n3 c3, .slice A4 n4 c4, .slice A5 n5 c5, .slice A6 n6 c6] 28 (0, 0)) := (HB1.out.block _ (by simp)).trans (heap_alloc_new w _)
  have hbw1 : Below w.heap.size w w1 := ((Below.refl _ w).alloc (Nat.le_refl _) _).trans (HB1.out.mono (by simp))
  obtain ⟨W, hW⟩ : ∃ W, w1 = W := ⟨_, rfl⟩
  have hWb : W.heap[w.heap.size]? = some (.cells #[.int .i64 k, .int .i64 l, .int .i64 s, .slice A3 n3 c3, .slice A4 n4 c4, .slice A5 n5 c5, .slice A6 n6 c6] 28 (0, 0)) := by rw [← hW]; exact hbx1
  have hWB : Below w.heap.size w W := by rw [← hW]; exact hbw1
  rw [hW]
  clear hW hbx1 hbw1 HB1 g0 g1 g2 g3 g4 g5 g6
  obtain ⟨g0, g1, g2, g3, g4, g5, g6, _⟩ := seven_cells hWb
  have HWb := Lib.hid hWb
  have HWB := Lib.hid hWB
  have HLT : Hid (w.heap.size < W.drew.heap.size) := Lib.hid (lt_of_get hWb)
  clear hWb hWB
  go_region_held3 (fun w' => w'.cell? ⟨w.heap.size, 0, none⟩ = some (.int .i64 k) ∧ w'.cell? ⟨w.heap.size, 1, none⟩ = some (.int .i64 l) ∧ w'.cell? ⟨w.heap.size, 2, none⟩ = some (.int .i64 s) ∧ w'.cell? ⟨w.heap.size, 3, none⟩ = some (.slice A3 n3 c3) ∧ w'.cell? ⟨w.heap.size, 4, none⟩ = some (.slice A4 n4 c4) ∧ w'.cell? ⟨w.heap.size, 5, none⟩ = some (.slice A5 n5 c5) ∧ w'.cell? ⟨w.heap.size, 6, none⟩ = some (.slice A6 n6 c6)) (first | exact ⟨g0, g1, g2, g3, g4, g5, g6⟩ | exact ⟨p0, p1, p2, p3, p4, p5, p6⟩ | go_keep) (first | ((go_at_call 17; refine (HST.out _).mono ?_; rintro e2 w2 ⟨rfl, rfl⟩)) | ((go_at_call 16; refine (HBODY.out _ (below_drewN HWB.out 1)).mono ?_; rintro e2 w2 ⟨rfl, hB2⟩; obtain ⟨p0, p1, p2, p3, p4, p5, p6⟩ := old_cells (w := W.drew) HWb.out HLT.out hB2; have HB2 := Lib.hid hB2; clear hB2)))
  all_goals
    have HBF := Lib.hid (HWB.out.trans ((below_drewN (Below.refl W.heap.size W) 1).trans HB2.out |>.mono HWB.out.size))
    go_wp2_with (go_at_call 18; refine (HNM.out _).mono ?_; rintro e3 w3 ⟨rfl, rfl⟩)
    go_ret2
    refine ⟨?_, HBF.out⟩
    rw [HRES.out, show tagT 1 = [] from by decide, ← app_ba, ← app_ba, ← app_ba]
    rfl

set_option maxRecDepth 100000 in
set_option maxHeartbeats 4000000 in
theorem write7_2 (k l s : Int) (hk8 : k = 1 ∨ k = 2 ∨ k = 3 ∨ k = 4 ∨ k = 5 ∨ k = 6 ∨ k = 7 ∨ k = 8) (A3 A4 A5 A6 : Option Addr) (n3 n4 n5 n6 c3 c4 c5 c6 : Nat) (w : World) (d : Int) (B : List UInt8) (hBl : B.length ≤ 140737488355328)
    (hlay : ∀ w', Below w.heap.size w w' → Calls Tryz.prog 15 #[.agg #[.int .i64 k, .int .i64 l, .int .i64 s, .slice A3 n3 c3, .slice A4 n4 c4, .slice A5 n5 c5, .slice A6 n6 c6]] w' (Ret (.int .i64 2) w'))
    (hbody : ∀ w', Below w.heap.size w w' → Calls Tryz.prog 16 #[.agg #[.int .i64 k, .int .i64 l, .int .i64 s, .slice A3 n3 c3, .slice A4 n4 c4, .slice A5 n5 c5, .slice A6 n6 c6], .int .i64 (strideF 2), .int .i64 d, .bool true] w' (BodyRet B w')) :
    Calls Tryz.prog 7 #[.agg #[.int .i64 k, .int .i64 l, .int .i64 s, .slice A3 n3 c3, .slice A4 n4 c4, .slice A5 n5 c5, .slice A6 n6 c6], .int .i64 d] w (BodyRet (nameT k ++ tagT 2 ++ B) w) := by
  have HLAY := Lib.hid hlay
  have HBODY := Lib.hid hbody
  have HNM := Lib.hid (fun w => kindName18 k hk8 w)
  have HST := Lib.hid (fun w => stride17 2 (by omega) (by omega) w)
  obtain ⟨S, hS⟩ : ∃ S, strideF 2 = S := ⟨_, rfl⟩
  rw [hS] at HBODY HST
  have HRES : Hid (nameT k ++ tagT 2 ++ B = nameS k ++ [32] ++ tagT 2 ++ B) := Lib.hid (by rw [nameT_eq])
  obtain ⟨N, hN⟩ : ∃ N, nameS k = N := ⟨_, rfl⟩
  have hNl : N.length ≤ 100 := by
    rw [← hN]
    rcases hk8 with rfl | rfl | rfl | rfl | rfl | rfl | rfl | rfl <;> decide
  rw [hN] at HRES HNM
  have q1 : ∀ w, (binOp .add 9 (.string ⟨N.toArray⟩) (.string ⟨#[32]⟩)).run Tryz.prog w = .ok (.string ⟨(N ++ [32]).toArray⟩) w := fun w => cat9 N [32] (by simp; omega) w
  have q2 : ∀ w, (binOp .add 9 (.string ⟨(N ++ [32]).toArray⟩) (.string ⟨#[90, 32]⟩)).run Tryz.prog w = .ok (.string ⟨(N ++ [32] ++ [90, 32]).toArray⟩) w := fun w => cat9 _ [90, 32] (by simp; omega) w
  have q3 : ∀ w, (binOp .add 9 (.string ⟨(N ++ [32] ++ [90, 32]).toArray⟩) (.string ⟨B.toArray⟩)).run Tryz.prog w = .ok (.string ⟨(N ++ [32] ++ [90, 32] ++ B).toArray⟩) w := fun w => cat9 _ B (by simp; omega) w
  clear hlay hbody hS hN hk8
  skip
  go_enter Tryz.func7, Tryz.ntmps7
  go_upto_region 7 with (go_at_call 15; refine (HLAY.out _ ((Below.refl _ w).alloc (Nat.le_refl _) _)).mono ?_; rintro e1 w1 ⟨rfl, hB1⟩; obtain ⟨g0, g1, g2, g3, g4, g5, g6⟩ := box_cells hB1; have HB1 := Lib.hid hB1; clear hB1)
  have hbx1 : w1.heap[w.heap.size]? = some (.cells #[.int .i64 k, .int .i64 l, .int .i64 s, .slice A3 n3 c3, .slice A4 n4 c4, .slice A5 n5 c5, .slice A6 n6 c6] 28 (0, 0)) := (HB1.out.block _ (by simp)).trans (heap_alloc_new w _)
  have hbw1 : Below w.heap.size w w1 := ((Below.refl _ w).alloc (Nat.le_refl _) _).trans (HB1.out.mono (by simp))
  obtain ⟨W, hW⟩ : ∃ W, (w1.alloc (Obj.cells #[Value.string { data := #[90, 32] }, Value.string { data := #[77, 32] }, Value.string { data := #[90, 77, 32] }] 9)) = W := ⟨_, rfl⟩
  have hWb : W.heap[w.heap.size]? = some (.cells #[.int .i64 k, .int .i64 l, .int .i64 s, .slice A3 n3 c3, .slice A4 n4 c4, .slice A5 n5 c5, .slice A6 n6 c6] 28 (0, 0)) := by rw [← hW]; exact heap_alloc_old _ hbx1
  have hWB : Below w.heap.size w W := by rw [← hW]; exact hbw1.alloc hbw1.size _
  rw [hW]
  clear hW hbx1 hbw1 HB1 g0 g1 g2 g3 g4 g5 g6
  obtain ⟨g0, g1, g2, g3, g4, g5, g6, _⟩ := seven_cells hWb
  have HWb := Lib.hid hWb
  have HWB := Lib.hid hWB
  have HLT : Hid (w.heap.size < W.drew.heap.size) := Lib.hid (lt_of_get hWb)
  clear hWb hWB
  go_region_held3 (fun w' => w'.cell? ⟨w.heap.size, 0, none⟩ = some (.int .i64 k) ∧ w'.cell? ⟨w.heap.size, 1, none⟩ = some (.int .i64 l) ∧ w'.cell? ⟨w.heap.size, 2, none⟩ = some (.int .i64 s) ∧ w'.cell? ⟨w.heap.size, 3, none⟩ = some (.slice A3 n3 c3) ∧ w'.cell? ⟨w.heap.size, 4, none⟩ = some (.slice A4 n4 c4) ∧ w'.cell? ⟨w.heap.size, 5, none⟩ = some (.slice A5 n5 c5) ∧ w'.cell? ⟨w.heap.size, 6, none⟩ = some (.slice A6 n6 c6)) (first | exact ⟨g0, g1, g2, g3, g4, g5, g6⟩ | exact ⟨p0, p1, p2, p3, p4, p5, p6⟩ | go_keep) (first | ((go_at_call 17; refine (HST.out _).mono ?_; rintro e2 w2 ⟨rfl, rfl⟩)) | ((go_at_call 16; refine (HBODY.out _ (below_drewN HWB.out 1)).mono ?_; rintro e2 w2 ⟨rfl, hB2⟩; obtain ⟨p0, p1, p2, p3, p4, p5, p6⟩ := old_cells (w := W.drew) HWb.out HLT.out hB2; have HB2 := Lib.hid hB2; clear hB2)))
  all_goals
    have HBF := Lib.hid (HWB.out.trans ((below_drewN (Below.refl W.heap.size W) 1).trans HB2.out |>.mono HWB.out.size))
    go_wp2_with (go_at_call 18; refine (HNM.out _).mono ?_; rintro e3 w3 ⟨rfl, rfl⟩)
    go_ret2
    refine ⟨?_, HBF.out⟩
    rw [HRES.out, show tagT 2 = [90, 32] from by decide, ← app_ba, ← app_ba, ← app_ba]
    rfl

set_option maxRecDepth 100000 in
set_option maxHeartbeats 4000000 in
theorem write7_3 (k l s : Int) (hk8 : k = 1 ∨ k = 2 ∨ k = 3 ∨ k = 4 ∨ k = 5 ∨ k = 6 ∨ k = 7 ∨ k = 8) (A3 A4 A5 A6 : Option Addr) (n3 n4 n5 n6 c3 c4 c5 c6 : Nat) (w : World) (d : Int) (B : List UInt8) (hBl : B.length ≤ 140737488355328)
    (hlay : ∀ w', Below w.heap.size w w' → Calls Tryz.prog 15 #[.agg #[.int .i64 k, .int .i64 l, .int .i64 s, .slice A3 n3 c3, .slice A4 n4 c4, .slice A5 n5 c5, .slice A6 n6 c6]] w' (Ret (.int .i64 3) w'))
    (hbody : ∀ w', Below w.heap.size w w' → Calls Tryz.prog 16 #[.agg #[.int .i64 k, .int .i64 l, .int .i64 s, .slice A3 n3 c3, .slice A4 n4 c4, .slice A5 n5 c5, .slice A6 n6 c6], .int .i64 (strideF 3), .int .i64 d, .bool true] w' (BodyRet B w')) :
    Calls Tryz.prog 7 #[.agg #[.int .i64 k, .int .i64 l, .int .i64 s, .slice A3 n3 c3, .slice A4 n4 c4, .slice A5 n5 c5, .slice A6 n6 c6], .int .i64 d] w (BodyRet (nameT k ++ tagT 3 ++ B) w) := by
  have HLAY := Lib.hid hlay
  have HBODY := Lib.hid hbody
  have HNM := Lib.hid (fun w => kindName18 k hk8 w)
  have HST := Lib.hid (fun w => stride17 3 (by omega) (by omega) w)
  obtain ⟨S, hS⟩ : ∃ S, strideF 3 = S := ⟨_, rfl⟩
  rw [hS] at HBODY HST
  have HRES : Hid (nameT k ++ tagT 3 ++ B = nameS k ++ [32] ++ tagT 3 ++ B) := Lib.hid (by rw [nameT_eq])
  obtain ⟨N, hN⟩ : ∃ N, nameS k = N := ⟨_, rfl⟩
  have hNl : N.length ≤ 100 := by
    rw [← hN]
    rcases hk8 with rfl | rfl | rfl | rfl | rfl | rfl | rfl | rfl <;> decide
  rw [hN] at HRES HNM
  have q1 : ∀ w, (binOp .add 9 (.string ⟨N.toArray⟩) (.string ⟨#[32]⟩)).run Tryz.prog w = .ok (.string ⟨(N ++ [32]).toArray⟩) w := fun w => cat9 N [32] (by simp; omega) w
  have q2 : ∀ w, (binOp .add 9 (.string ⟨(N ++ [32]).toArray⟩) (.string ⟨#[77, 32]⟩)).run Tryz.prog w = .ok (.string ⟨(N ++ [32] ++ [77, 32]).toArray⟩) w := fun w => cat9 _ [77, 32] (by simp; omega) w
  have q3 : ∀ w, (binOp .add 9 (.string ⟨(N ++ [32] ++ [77, 32]).toArray⟩) (.string ⟨B.toArray⟩)).run Tryz.prog w = .ok (.string ⟨(N ++ [32] ++ [77, 32] ++ B).toArray⟩) w := fun w => cat9 _ B (by simp; omega) w
  clear hlay hbody hS hN hk8
  skip
  go_enter Tryz.func7, Tryz.ntmps7
  go_upto_region 7 with (go_at_call 15; refine (HLAY.out _ ((Below.refl _ w).alloc (Nat.le_refl _) _)).mono ?_; rintro e1 w1 ⟨rfl, hB1⟩; obtain ⟨g0, g1, g2, g3, g4, g5, g6⟩ := box_cells hB1; have HB1 := Lib.hid hB1; clear hB1)
  have hbx1 : w1.heap[w.heap.size]? = some (.cells #[.int .i64 k, .int .i64 l, .int .i64 s, .slice A3 n3 c3, .slice A4 n4 c4, .slice A5 n5 c5, .slice A6 n6 c6] 28 (0, 0)) := (HB1.out.block _ (by simp)).trans (heap_alloc_new w _)
  have hbw1 : Below w.heap.size w w1 := ((Below.refl _ w).alloc (Nat.le_refl _) _).trans (HB1.out.mono (by simp))
  obtain ⟨W, hW⟩ : ∃ W, (w1.alloc (Obj.cells #[Value.string { data := #[90, 32] }, Value.string { data := #[77, 32] }, Value.string { data := #[90, 77, 32] }] 9)) = W := ⟨_, rfl⟩
  have hWb : W.heap[w.heap.size]? = some (.cells #[.int .i64 k, .int .i64 l, .int .i64 s, .slice A3 n3 c3, .slice A4 n4 c4, .slice A5 n5 c5, .slice A6 n6 c6] 28 (0, 0)) := by rw [← hW]; exact heap_alloc_old _ hbx1
  have hWB : Below w.heap.size w W := by rw [← hW]; exact hbw1.alloc hbw1.size _
  rw [hW]
  clear hW hbx1 hbw1 HB1 g0 g1 g2 g3 g4 g5 g6
  obtain ⟨g0, g1, g2, g3, g4, g5, g6, _⟩ := seven_cells hWb
  have HWb := Lib.hid hWb
  have HWB := Lib.hid hWB
  have HLT : Hid (w.heap.size < W.drew.heap.size) := Lib.hid (lt_of_get hWb)
  clear hWb hWB
  go_region_held3 (fun w' => w'.cell? ⟨w.heap.size, 0, none⟩ = some (.int .i64 k) ∧ w'.cell? ⟨w.heap.size, 1, none⟩ = some (.int .i64 l) ∧ w'.cell? ⟨w.heap.size, 2, none⟩ = some (.int .i64 s) ∧ w'.cell? ⟨w.heap.size, 3, none⟩ = some (.slice A3 n3 c3) ∧ w'.cell? ⟨w.heap.size, 4, none⟩ = some (.slice A4 n4 c4) ∧ w'.cell? ⟨w.heap.size, 5, none⟩ = some (.slice A5 n5 c5) ∧ w'.cell? ⟨w.heap.size, 6, none⟩ = some (.slice A6 n6 c6)) (first | exact ⟨g0, g1, g2, g3, g4, g5, g6⟩ | exact ⟨p0, p1, p2, p3, p4, p5, p6⟩ | go_keep) (first | ((go_at_call 17; refine (HST.out _).mono ?_; rintro e2 w2 ⟨rfl, rfl⟩)) | ((go_at_call 16; refine (HBODY.out _ (below_drewN HWB.out 1)).mono ?_; rintro e2 w2 ⟨rfl, hB2⟩; obtain ⟨p0, p1, p2, p3, p4, p5, p6⟩ := old_cells (w := W.drew) HWb.out HLT.out hB2; have HB2 := Lib.hid hB2; clear hB2)))
  all_goals
    have HBF := Lib.hid (HWB.out.trans ((below_drewN (Below.refl W.heap.size W) 1).trans HB2.out |>.mono HWB.out.size))
    go_wp2_with (go_at_call 18; refine (HNM.out _).mono ?_; rintro e3 w3 ⟨rfl, rfl⟩)
    go_ret2
    refine ⟨?_, HBF.out⟩
    rw [HRES.out, show tagT 3 = [77, 32] from by decide, ← app_ba, ← app_ba, ← app_ba]
    rfl

set_option maxRecDepth 100000 in
set_option maxHeartbeats 4000000 in
theorem write7_4 (k l s : Int) (hk8 : k = 1 ∨ k = 2 ∨ k = 3 ∨ k = 4 ∨ k = 5 ∨ k = 6 ∨ k = 7 ∨ k = 8) (A3 A4 A5 A6 : Option Addr) (n3 n4 n5 n6 c3 c4 c5 c6 : Nat) (w : World) (d : Int) (B : List UInt8) (hBl : B.length ≤ 140737488355328)
    (hlay : ∀ w', Below w.heap.size w w' → Calls Tryz.prog 15 #[.agg #[.int .i64 k, .int .i64 l, .int .i64 s, .slice A3 n3 c3, .slice A4 n4 c4, .slice A5 n5 c5, .slice A6 n6 c6]] w' (Ret (.int .i64 4) w'))
    (hbody : ∀ w', Below w.heap.size w w' → Calls Tryz.prog 16 #[.agg #[.int .i64 k, .int .i64 l, .int .i64 s, .slice A3 n3 c3, .slice A4 n4 c4, .slice A5 n5 c5, .slice A6 n6 c6], .int .i64 (strideF 4), .int .i64 d, .bool true] w' (BodyRet B w')) :
    Calls Tryz.prog 7 #[.agg #[.int .i64 k, .int .i64 l, .int .i64 s, .slice A3 n3 c3, .slice A4 n4 c4, .slice A5 n5 c5, .slice A6 n6 c6], .int .i64 d] w (BodyRet (nameT k ++ tagT 4 ++ B) w) := by
  have HLAY := Lib.hid hlay
  have HBODY := Lib.hid hbody
  have HNM := Lib.hid (fun w => kindName18 k hk8 w)
  have HST := Lib.hid (fun w => stride17 4 (by omega) (by omega) w)
  obtain ⟨S, hS⟩ : ∃ S, strideF 4 = S := ⟨_, rfl⟩
  rw [hS] at HBODY HST
  have HRES : Hid (nameT k ++ tagT 4 ++ B = nameS k ++ [32] ++ tagT 4 ++ B) := Lib.hid (by rw [nameT_eq])
  obtain ⟨N, hN⟩ : ∃ N, nameS k = N := ⟨_, rfl⟩
  have hNl : N.length ≤ 100 := by
    rw [← hN]
    rcases hk8 with rfl | rfl | rfl | rfl | rfl | rfl | rfl | rfl <;> decide
  rw [hN] at HRES HNM
  have q1 : ∀ w, (binOp .add 9 (.string ⟨N.toArray⟩) (.string ⟨#[32]⟩)).run Tryz.prog w = .ok (.string ⟨(N ++ [32]).toArray⟩) w := fun w => cat9 N [32] (by simp; omega) w
  have q2 : ∀ w, (binOp .add 9 (.string ⟨(N ++ [32]).toArray⟩) (.string ⟨#[90, 77, 32]⟩)).run Tryz.prog w = .ok (.string ⟨(N ++ [32] ++ [90, 77, 32]).toArray⟩) w := fun w => cat9 _ [90, 77, 32] (by simp; omega) w
  have q3 : ∀ w, (binOp .add 9 (.string ⟨(N ++ [32] ++ [90, 77, 32]).toArray⟩) (.string ⟨B.toArray⟩)).run Tryz.prog w = .ok (.string ⟨(N ++ [32] ++ [90, 77, 32] ++ B).toArray⟩) w := fun w => cat9 _ B (by simp; omega) w
  clear hlay hbody hS hN hk8
  skip
  go_enter Tryz.func7, Tryz.ntmps7
  go_upto_region 7 with (go_at_call 15; refine (HLAY.out _ ((Below.refl _ w).alloc (Nat.le_refl _) _)).mono ?_; rintro e1 w1 ⟨rfl, hB1⟩; obtain ⟨g0, g1, g2, g3, g4, g5, g6⟩ := box_cells hB1; have HB1 := Lib.hid hB1; clear hB1)
  have hbx1 : w1.heap[w.heap.size]? = some (.cells #[.int .i64 k, .int .i64 l, .int .i64 s, .slice A3 n3 c3, .slice A4 n4 c4, .slice A5 n5 c5, .slice A6 n6 c6] 28 (0, 0)) := (HB1.out.block _ (by simp)).trans (heap_alloc_new w _)
  have hbw1 : Below w.heap.size w w1 := ((Below.refl _ w).alloc (Nat.le_refl _) _).trans (HB1.out.mono (by simp))
  obtain ⟨W, hW⟩ : ∃ W, (w1.alloc (Obj.cells #[Value.string { data := #[90, 32] }, Value.string { data := #[77, 32] }, Value.string { data := #[90, 77, 32] }] 9)) = W := ⟨_, rfl⟩
  have hWb : W.heap[w.heap.size]? = some (.cells #[.int .i64 k, .int .i64 l, .int .i64 s, .slice A3 n3 c3, .slice A4 n4 c4, .slice A5 n5 c5, .slice A6 n6 c6] 28 (0, 0)) := by rw [← hW]; exact heap_alloc_old _ hbx1
  have hWB : Below w.heap.size w W := by rw [← hW]; exact hbw1.alloc hbw1.size _
  rw [hW]
  clear hW hbx1 hbw1 HB1 g0 g1 g2 g3 g4 g5 g6
  obtain ⟨g0, g1, g2, g3, g4, g5, g6, _⟩ := seven_cells hWb
  have HWb := Lib.hid hWb
  have HWB := Lib.hid hWB
  have HLT : Hid (w.heap.size < W.drew.heap.size) := Lib.hid (lt_of_get hWb)
  clear hWb hWB
  go_region_held3 (fun w' => w'.cell? ⟨w.heap.size, 0, none⟩ = some (.int .i64 k) ∧ w'.cell? ⟨w.heap.size, 1, none⟩ = some (.int .i64 l) ∧ w'.cell? ⟨w.heap.size, 2, none⟩ = some (.int .i64 s) ∧ w'.cell? ⟨w.heap.size, 3, none⟩ = some (.slice A3 n3 c3) ∧ w'.cell? ⟨w.heap.size, 4, none⟩ = some (.slice A4 n4 c4) ∧ w'.cell? ⟨w.heap.size, 5, none⟩ = some (.slice A5 n5 c5) ∧ w'.cell? ⟨w.heap.size, 6, none⟩ = some (.slice A6 n6 c6)) (first | exact ⟨g0, g1, g2, g3, g4, g5, g6⟩ | exact ⟨p0, p1, p2, p3, p4, p5, p6⟩ | go_keep) (first | ((go_at_call 17; refine (HST.out _).mono ?_; rintro e2 w2 ⟨rfl, rfl⟩)) | ((go_at_call 16; refine (HBODY.out _ (below_drewN HWB.out 1)).mono ?_; rintro e2 w2 ⟨rfl, hB2⟩; obtain ⟨p0, p1, p2, p3, p4, p5, p6⟩ := old_cells (w := W.drew) HWb.out HLT.out hB2; have HB2 := Lib.hid hB2; clear hB2)))
  all_goals
    have HBF := Lib.hid (HWB.out.trans ((below_drewN (Below.refl W.heap.size W) 1).trans HB2.out |>.mono HWB.out.size))
    go_wp2_with (go_at_call 18; refine (HNM.out _).mono ?_; rintro e3 w3 ⟨rfl, rfl⟩)
    go_ret2
    refine ⟨?_, HBF.out⟩
    rw [HRES.out, show tagT 4 = [90, 77, 32] from by decide, ← app_ba, ← app_ba, ← app_ba]
    rfl
end Go.Proofs.YtokmamakmaojpaaGreatDoor

/- K12. -/
namespace Go.Proofs.YtokmamakmaojpaaGreatDoor
open Go.RowKit

theorem write7_any (k l s : Int) (f : List Nat) (e : List Int) (es : List (List Int)) (kids : List G) (hk8 : k = 1 ∨ k = 2 ∨ k = 3 ∨ k = 4 ∨ k = 5 ∨ k = 6 ∨ k = 7 ∨ k = 8) (hY : layB 4 (.mk k l s f e es kids) = true) (c : Nat → Value) (w : World) (hg : GAt w c (.mk k l s f e es kids)) (d : Int) (hBl : (bodyT d (.mk k l s f e es kids)).length ≤ 140737488355328)
    (hbody : ∀ w', Below w.heap.size w w' → Calls Tryz.prog 16 #[.agg #[c 0, c 1, c 2, c 3, c 4, c 5, c 6], .int .i64 (strideF (layT (.mk k l s f e es kids))), .int .i64 d, .bool true] w' (BodyRet (bodyT d (.mk k l s f e es kids)) w')) :
    Calls Tryz.prog 7 #[.agg #[c 0, c 1, c 2, c 3, c 4, c 5, c 6], .int .i64 d] w (BodyRet (wktT d (.mk k l s f e es kids)) w) := by
  rw [wktT_eq]
  have hlay : ∀ w', Below w.heap.size w w' → Calls Tryz.prog 15 #[.agg #[c 0, c 1, c 2, c 3, c 4, c 5, c 6]] w' (Ret (.int .i64 (layT (.mk k l s f e es kids))) w') := fun w' hb => layoutOf15 _ (layB_mono (by omega) _ hY) c w' (hg.stays (Nat.le_refl _) hb)
  have hr := layT_rng (m := 4) (by omega) _ hY
  have ho := layB_own hY
  have h7 : layT (.mk k l s f e es kids) = 0 → k = 7 := fun h => by
    by_cases h7 : k = 7
    · exact h7
    · rw [layT_own k l s f e es kids (Or.inl h7)] at h
      have := ho.2.2 h7
      omega
  obtain ⟨A3, A4, A5, A6, c3, c4, c5, c6, e0, e1, e2, e3, e4, e5, e6, _⟩ := hg.open_
  rw [e0, e1, e2, e3, e4, e5, e6] at hlay hbody ⊢
  show Calls _ _ _ _ (BodyRet (nameT k ++ tagT (layT (.mk k l s f e es kids)) ++ bodyT d (.mk k l s f e es kids)) w)
  generalize layT (.mk k l s f e es kids) = L at hlay hbody hr h7 ⊢
  have hL : L = 0 ∨ L = 1 ∨ L = 2 ∨ L = 3 ∨ L = 4 := by omega
  rcases hL with rfl | rfl | rfl | rfl | rfl
  · exact write7_0 k l s hk8 (h7 rfl) A3 A4 A5 A6 _ _ _ _ c3 c4 c5 c6 w d _ hBl hlay hbody
  · exact write7_1 k l s hk8 A3 A4 A5 A6 _ _ _ _ c3 c4 c5 c6 w d _ hBl hlay hbody
  · exact write7_2 k l s hk8 A3 A4 A5 A6 _ _ _ _ c3 c4 c5 c6 w d _ hBl hlay hbody
  · exact write7_3 k l s hk8 A3 A4 A5 A6 _ _ _ _ c3 c4 c5 c6 w d _ hBl hlay hbody
  · exact write7_4 k l s hk8 A3 A4 A5 A6 _ _ _ _ c3 c4 c5 c6 w d _ hBl hlay hbody
theorem bodyT_le (d : Int) (g : G) : (bodyT d g).length ≤ (wktT d g).length := by
  rw [wktT_eq, List.length_append]
  omega
theorem joinT_at {f : Nat → List UInt8} {n i : Nat} (hi : i < n) : (f i).length ≤ (joinT f n).length := by
  have h3 := joinT_length_le (f := f) (i := i + 1) (n := n) (by omega)
  have h4 : joinT f (i + 1) = joinT f i ++ (if i = 0 then [] else commaT) ++ f i := rfl
  rw [h4, List.length_append] at h3
  omega
theorem joinT_bound {f : Nat → List UInt8} {M : Nat} (h : ∀ i, (f i).length ≤ M) : ∀ n, (joinT f n).length ≤ n * (M + 2)
  | 0 => Nat.zero_le _
  | n + 1 => by
    have ih := joinT_bound h n
    have h1 := h n
    have h4 : joinT f (n + 1) = joinT f n ++ (if n = 0 then [] else commaT) ++ f n := rfl
    have h2 : (if n = 0 then ([] : List UInt8) else commaT).length ≤ 2 := by split <;> simp [commaT]
    rw [h4, List.length_append, List.length_append, Nat.succ_mul]
    omega
set_option maxHeartbeats 2000000 in
theorem write7 (d : Int) (h0 : -1 ≤ d) (h1 : d ≤ 20) (g : G) : layB 4 g = true → goodB g = true → wgt g ≤ 2097152 → (wktT d g).length ≤ 140737488355328 → ∀ (c : Nat → Value) (w : World), Tabs w → GAt w c g →
    Calls Tryz.prog 7 #[.agg #[c 0, c 1, c 2, c 3, c 4, c 5, c 6], .int .i64 d] w (BodyRet (wktT d g) w) := by
  induction g using G.ind with
  | h k l s f e es kids ih =>
    intro hY hB hW hLen c w hT hg
    have hlay := layB_own hY
    have hBl := Nat.le_trans (bodyT_le d _) hLen
    have hW' := hW
    rw [wgt] at hW'
    by_cases h7 : k = 7
    · subst h7
      have hc := coll_of hB
      refine write7_any 7 l s f e es kids (by omega) hY c w hg d hBl fun w' hb => ?_
      have hr := layT_rng (m := 4) (by omega) _ hY
      obtain ⟨st, hst⟩ : ∃ st : Nat, strideF (layT (.mk 7 l s f e es kids)) = st := by
        generalize layT (.mk 7 l s f e es kids) = L at hr
        have hL : L = 0 ∨ L = 1 ∨ L = 2 ∨ L = 3 ∨ L = 4 := by omega
        have h : 0 ≤ strideF L := by rcases hL with rfl | rfl | rfl | rfl | rfl <;> decide
        exact ⟨(strideF L).toNat, by omega⟩
      rw [hst]
      have hg' := hg.stays (Nat.le_refl _) hb
      have hkl : kids.length ≤ 2097152 := by have := length_le_wgts kids; omega
      have hp : ∀ w1, Below w'.heap.size w' w1 → Calls Tryz.prog 47 #[.agg #[c 0, c 1, c 2, c 3, c 4, c 5, c 6]] w1 (PartsRet kids w1) := fun w1 hb1 => by
        have hg1 := hg'.stays (Nat.le_refl _) hb1
        have hpc := fun (i : Nat) (hi : i < kids.length) (w2 : World) (hb2 : Below w1.heap.size w1 w2) => (part_7 l s f e es kids c w1 w2 hg1 hb2 i hi hkl).mono fun _ _ h => PartOld.any h hb2
        obtain ⟨A3, A4, A5, A6, c3, c4, c5, c6, e0, e1, e2, e3, e4, e5, e6, _⟩ := hg.open_
        rw [e0, e1, e2, e3, e4, e5, e6] at hpc ⊢
        exact parts47 7 l s (by omega) A3 A4 A5 A6 f.length e.length es.length _ c3 c4 c5 c6 w1 kids rfl hkl hpc
      have hbt : bodyT d (.mk 7 l s f e es kids) = if kids.length = 0 then emptyT else inBr (joinT (fun i => (wktTs d kids).getD i []) kids.length) := rfl
      have hjl : (joinT (fun i => (wktTs d kids).getD i []) kids.length).length ≤ 140737488355328 := by
        by_cases hk0 : kids.length = 0
        · rw [hk0]
          exact Nat.zero_le _
        · rw [hbt, if_neg hk0, inBr_length] at hBl
          omega
      have hrd : ∀ i (hi : i < kids.length), ∀ c w1, GAt w1 c kids[i] → Below w'.heap.size w' w1 → Calls Tryz.prog 7 #[.agg #[c 0, c 1, c 2, c 3, c 4, c 5, c 6], .int .i64 d] w1 (BodyRet ((wktTs d kids).getD i []) w1) := fun i hi c w1 hgi hb1 => by
        have hle := Nat.le_trans (joinT_at (f := fun i => (wktTs d kids).getD i []) hi) hjl
        simp only [wktTs_getD d kids i hi] at hle ⊢
        exact ih i hi (layB_kid hY i hi) (hc i hi).1 (by have := wgts_take kids i hi; have := wgts_take_le kids (i + 1); omega) hle c w1 (hT.below (hb.trans (hb1.mono hb.size))) hgi
      obtain ⟨A3, A4, A5, A6, c3, c4, c5, c6, e0, e1, e2, e3, e4, e5, e6, _⟩ := hg.open_
      rw [e0, e1, e2, e3, e4, e5, e6] at hp ⊢
      rw [hbt]
      exact body16_7 l s A3 A4 A5 A6 f.length e.length es.length kids.length c3 c4 c5 c6 w' st d true kids (fun i => (wktTs d kids).getD i []) hkl hp hrd hjl
    · have hl1 := hlay.2.2 h7
      have hl9 : l ≤ 9 := by omega
      obtain ⟨hp, rfl⟩ := leaf_of h7 hl1 hl9 hg.gok hB
      obtain ⟨hs0, hs1⟩ := strideF_rng hl1 hl9
      have hk8 : k = 1 ∨ k = 2 ∨ k = 3 ∨ k = 4 ∨ k = 5 ∨ k = 6 ∨ k = 7 ∨ k = 8 := by have := hp.kind; omega
      refine write7_any k l s f e es [] hk8 hY c w hg d hBl fun w' hb => ?_
      rw [layT_own k l s f e es [] (Or.inl h7)]
      obtain ⟨st, hst⟩ : ∃ st : Nat, strideF l = st := ⟨(strideF l).toNat, by omega⟩
      have hst' : (strideF l).toNat = st := by omega
      rw [hst'] at hp
      rw [hst]
      have hg' := hg.stays (Nat.le_refl _) hb
      have hT' := hT.below hb
      have hei : ∀ j, j < es.length → (es.getD j []).length ≤ 2097152 := fun j hj => by
        have := rowsW_take es j hj
        have := rowsW_take_le es (j + 1)
        omega
      have hel := length_le_rowsW es
      rcases hp.kind with rfl | rfl | rfl | rfl | rfl | rfl | rfl
      · have hbt : bodyT d (.mk 1 l s f e es []) = placesT st d f := by rw [← hst']; rfl
        rw [hbt]
        exact body16_line 1 l s (by omega) f e es c w' hg' st d true (by omega) (by omega) h0 h1 (by omega) hT'
      · have hbt : bodyT d (.mk 2 l s f e es []) = placesT st d f := by rw [← hst']; rfl
        rw [hbt]
        exact body16_line 2 l s (by omega) f e es c w' hg' st d true (by omega) (by omega) h0 h1 (by omega) hT'
      · have hbt : bodyT d (.mk 8 l s f e es []) = placesT st d f := by rw [← hst']; rfl
        rw [hbt]
        exact body16_line 8 l s (by omega) f e es c w' hg' st d true (by omega) (by omega) h0 h1 (by omega) hT'
      · obtain ⟨q1, _, q3⟩ := hp.ends (by omega)
        have hbt : bodyT d (.mk 3 l s f e es []) = if f.length = 0 then emptyT else ringsT st d f 0 e := by rw [← hst']; rfl
        have hjl : (joinT (fun k => placesT st d (segAt f 0 e k)) e.length).length ≤ 140737488355328 := by
          by_cases hf0 : f.length = 0
          · have hb5 : ∀ i, (placesT st d (segAt f 0 e i)).length ≤ 5 := fun i => by
              have := segAt_le f 0 e i
              rw [placesT, if_pos (by omega)]
              decide
            have := joinT_bound hb5 e.length
            omega
          · have h2 : ringsT st d f 0 e = inBr (joinT (fun k => placesT st d (segAt f 0 e k)) e.length) := rfl
            rw [hbt, if_neg hf0, h2, inBr_length] at hBl
            omega
        have h := rings16_3 l s f e es c w' hg' st d true (by omega) (by omega) h0 h1 (by omega) (by omega) q1 hT' hjl
        have he : (if (true = true ∧ f.length = 0) ∨ e.length = 0 then emptyT else ringsT st d f 0 e) = bodyT d (.mk 3 l s f e es []) := by
          rw [hbt]
          by_cases hf0 : f.length = 0
          · rw [if_pos (Or.inl ⟨rfl, hf0⟩), if_pos hf0]
          · rw [if_neg (fun h => h.elim (fun h => hf0 h.2) (fun h => hf0 (q3 h))), if_neg hf0]
        rw [he] at h
        exact h
      · obtain ⟨q1, q2, q3⟩ := hp.ends (by omega)
        have hbt : bodyT d (.mk 4 l s f e es []) = if e.length = 0 then emptyT else pointsT d f e := rfl
        have hjl : (joinT (fun k => pointT d (segAt f 0 e k)) e.length).length ≤ 140737488355328 := by
          by_cases he0 : e.length = 0
          · rw [he0]
            exact Nat.zero_le _
          · have h2 : pointsT d f e = inBr (joinT (fun k => pointT d (segAt f 0 e k)) e.length) := rfl
            rw [hbt, if_neg he0, h2, inBr_length] at hBl
            omega
        have h := points16_4 l s f e es c w' hg' st d true (by omega) (by omega) h0 h1 (by omega) (by omega) q1 (q2 rfl) hT' hjl
        rw [hbt]
        exact h
      · obtain ⟨q1, _, _⟩ := hp.ends (by omega)
        have hbt : bodyT d (.mk 5 l s f e es []) = if e.length = 0 then emptyT else ringsT st d f 0 e := by rw [← hst']; rfl
        have hjl : (joinT (fun k => placesT st d (segAt f 0 e k)) e.length).length ≤ 140737488355328 := by
          by_cases he0 : e.length = 0
          · rw [he0]
            exact Nat.zero_le _
          · have h2 : ringsT st d f 0 e = inBr (joinT (fun k => placesT st d (segAt f 0 e k)) e.length) := rfl
            rw [hbt, if_neg he0, h2, inBr_length] at hBl
            omega
        have h := rings16_5 l s f e es c w' hg' st d true (by omega) (by omega) h0 h1 (by omega) (by omega) q1 hT' hjl
        rw [hbt]
        exact h
      · have q1 := hp.endss rfl
        have hbt : bodyT d (.mk 6 l s f e es []) = if es.length = 0 then emptyT else polysT st d f es := by rw [← hst']; rfl
        have hjl : (joinT (polyT st d f es) es.length).length ≤ 140737488355328 := by
          by_cases he0 : es.length = 0
          · rw [he0]
            exact Nat.zero_le _
          · have h2 : polysT st d f es = inBr (joinT (polyT st d f es) es.length) := rfl
            rw [hbt, if_neg he0, h2, inBr_length] at hBl
            omega
        have h := polys16_6 l s f e es c w' hg' st d true (by omega) (by omega) h0 h1 (by omega) (by omega) hei q1 hT' hjl
        rw [hbt]
        exact h
end Go.Proofs.YtokmamakmaojpaaGreatDoor

/-
  The specification: the body of geometries with parts.
-/
import Derived.Test.YtokmamakmaojpaaGreatDoorM35
set_option linter.unusedVariables false
set_option linter.unusedSimpArgs false
set_option linter.unnecessarySimpa false
namespace Go.Proofs.YtokmamakmaojpaaGreatDoor
open Go.RowKit
attribute [local go_sem] no_yield

set_option maxRecDepth 100000 in
set_option maxHeartbeats 4000000 in
theorem body16_3 (l s : Int) (A3 A4 A5 A6 : Option Addr) (n3 n4 n5 n6 c3 c4 c5 c6 : Nat) (w : World) (st : Nat) (d : Int) (top : Bool) (ps : List G) (pt : Nat → List UInt8) (hn9 : ps.length ≤ 2097152)
    (hpa : ∀ w', Below w.heap.size w w' → Calls Tryz.prog 47 #[.agg #[.int .i64 3, .int .i64 l, .int .i64 s, .slice A3 n3 c3, .slice A4 n4 c4, .slice A5 n5 c5, .slice A6 n6 c6]] w' (PartsRet ps w'))
    (hrd : ∀ i (hi : i < ps.length), ∀ c w', GAt w' c ps[i] → Below w.heap.size w w' → (fun v => Calls Tryz.prog 16 #[v, .int .i64 st, .int .i64 d, .bool false] w' (BodyRet (pt i) w')) (.agg #[c 0, c 1, c 2, c 3, c 4, c 5, c 6])) (hlen : (joinT pt ps.length).length ≤ 140737488355328) :
    Calls Tryz.prog 16 #[.agg #[.int .i64 3, .int .i64 l, .int .i64 s, .slice A3 n3 c3, .slice A4 n4 c4, .slice A5 n5 c5, .slice A6 n6 c6], .int .i64 st, .int .i64 d, .bool top] w (BodyRet (if (top = true ∧ n3 = 0) ∨ ps.length = 0 then emptyT else inBr (joinT pt ps.length)) w) := by
  have HPA := Lib.hid hpa
  have HRD := Lib.hid hrd
  have HLEN := Lib.hid hlen
  obtain ⟨n, hn⟩ : ∃ n, ps.length = n := ⟨_, rfl⟩
  have HN := Lib.hid hn
  rw [hn] at hn9 ⊢
  clear hpa hrd hlen hn
  by_cases hE : (top = true ∧ n3 = 0) ∨ n = 0
  · rw [if_pos hE]
    have hc : (n3 = 0 ∧ top = true) ∨ (n3 = 0 ∧ top = false ∧ n = 0) ∨ (((n3 : Int) == 0) = false ∧ n = 0) := by
      by_cases h : n3 = 0
      · cases top
        · rcases hE with hE | hE
          · exact absurd hE.1 (by simp)
          · exact Or.inr (Or.inl ⟨h, rfl, hE⟩)
        · exact Or.inl ⟨h, rfl⟩
      · rcases hE with hE | hE
        · exact absurd hE.2 h
        · exact Or.inr (Or.inr ⟨beq_false_of_ne (by omega), hE⟩)
    clear hE
    rcases hc with ⟨rfl, rfl⟩ | ⟨rfl, rfl, rfl⟩ | ⟨hc, rfl⟩
    all_goals
      go_enter Tryz.func16, Tryz.ntmps16
      go_wp2_with (go_at_call 47; refine (HPA.out _ ((Below.refl _ w).alloc (Nat.le_refl _) _)).mono ?_; rintro e1 w1 ⟨v1, rfl, hv1, hB1⟩; obtain ⟨kc, hkr, hkg⟩ := hv1; rw [HN.out] at hkr; obtain ⟨Av, cv, rfl, hcv0, hcv1, _⟩ := id hkr; obtain ⟨g0, g1, g2, g3, g4, g5, g6⟩ := box_cells hB1; have HB1 := Lib.hid hB1; clear hB1 hkr hkg)
      go_ret2
      exact ⟨rfl, ((Below.refl _ w).alloc (Nat.le_refl _) _).trans (HB1.out.mono (by simp))⟩
  · rw [if_neg hE]
    obtain ⟨T, hT⟩ : ∃ T, inBr (joinT pt n) = T := ⟨_, rfl⟩
    have HTT := Lib.hid hT
    rw [hT]
    have hE1 : ¬ n = 0 := by omega
    have hE2 : ((n : Int) == 0) = false := beq_false_of_ne (by omega)
    have hJ : ∀ i, i ≤ n → (joinT pt i).length ≤ 140737488355328 := fun i hi => Nat.le_trans (joinT_length_le hi) (by have := HLEN.out; rw [HN.out] at this; exact this)
    have HJ := Lib.hid hJ
    have hc : (n3 = 0 ∧ top = false) ∨ ((n3 : Int) == 0) = false := by
      by_cases h : n3 = 0
      · refine Or.inl ⟨h, ?_⟩
        cases top
        · rfl
        · exact absurd (Or.inl ⟨rfl, h⟩) hE
      · exact Or.inr (beq_false_of_ne (by omega))
    clear hT hE hJ
    rcases hc with ⟨rfl, rfl⟩ | hc
    all_goals
      go_enter Tryz.func16, Tryz.ntmps16
      go_wp2_with (go_at_call 47; refine (HPA.out _ ((Below.refl _ w).alloc (Nat.le_refl _) _)).mono ?_; rintro e1 w1 ⟨v1, rfl, hv1, hB1⟩; obtain ⟨kc, hkr, hkg⟩ := hv1; rw [HN.out] at hkr; obtain ⟨Av, cv, rfl, hcv0, hcv1, _⟩ := id hkr; obtain ⟨g0, g1, g2, g3, g4, g5, g6⟩ := box_cells hB1; have HB1 := Lib.hid hB1; have HKR := Lib.hid hkr; have HKG := Lib.hid hkg; unfold maxLen at hcv1; clear hB1 hkr hkg)
      have hbx : w.heap.size < w1.heap.size := by have := HB1.out.size; simp at this; omega
      have hBw : Below w.heap.size w w1 := ((Below.refl _ w).alloc (Nat.le_refl _) _).trans (HB1.out.mono (by simp))
      have HBW := Lib.hid hBw
      clear hBw
      go_loopg [9, 11, 55] n (fun gk v9 v11 vc wr => ∃ i : Nat, i + gk = n ∧ vc = .int .i64 i ∧ v9 = .bool true ∧ v11 = .string ⟨([40] ++ joinT pt i).toArray⟩ ∧ Below w1.heap.size w1 wr)
      case atStart => exact ⟨0, by omega, rfl, rfl, rfl, Below.refl _ _⟩
      case round =>
        obtain ⟨i, hi, rfl, rfl, rfl, hB⟩ := hrel
        obtain ⟨t, ht⟩ : ∃ t, [40] ++ joinT pt i = t := ⟨_, rfl⟩
        have hlt1 : t.length ≤ 200000000000000 := by rw [← ht, List.length_append]; have := HJ.out i (by omega); simp; omega
        rw [ht]
        by_cases hlt : i < n
        · have HI := Lib.hid hi
          have hil : i < ps.length := by rw [HN.out]; exact hlt
          have hJ1 := HJ.out (i + 1) (by omega)
          have hR := fun c w' h => HRD.out i hil c w' h
          have hu1 : (pt i).length ≤ 140737488355328 := by
            have e : joinT pt (i + 1) = joinT pt i ++ (if i = 0 then [] else commaT) ++ pt i := rfl
            rw [e, List.length_append] at hJ1
            omega
          have hstep : [40] ++ joinT pt (i + 1) = t ++ (if i = 0 then [] else commaT) ++ pt i := by rw [← ht]; show [40] ++ (joinT pt i ++ _ ++ pt i) = _; simp
          obtain ⟨u, hu⟩ : ∃ u, pt i = u := ⟨_, rfl⟩
          rw [hu] at hstep hu1
          simp only [hu] at hR
          obtain ⟨b, o, k', l', s', A3', m3, d3, A4', m4, d4, A5', m5, d5, A6', m6, d6, rfl, hb, x0, x1, x2, x3, x4, x5, x6, HCL⟩ :=
            kid_at hB HKR.out hlt (HKG.out i hil) (R := fun v w' => Below w.heap.size w w' → Calls Tryz.prog 16 #[v, .int .i64 st, .int .i64 d, .bool false] w' (BodyRet u w')) hR
          obtain ⟨y0, y1, y2, y3, y4, y5, y6⟩ : wr.cell? ⟨w.heap.size, 0, none⟩ = _ ∧ wr.cell? ⟨w.heap.size, 1, none⟩ = _ ∧ wr.cell? ⟨w.heap.size, 2, none⟩ = _ ∧ wr.cell? ⟨w.heap.size, 3, none⟩ = _ ∧ wr.cell? ⟨w.heap.size, 4, none⟩ = _ ∧ wr.cell? ⟨w.heap.size, 5, none⟩ = _ ∧ wr.cell? ⟨w.heap.size, 6, none⟩ = _ :=
            ⟨(hB.cell (p := ⟨w.heap.size, 0, none⟩) hbx).trans g0, (hB.cell (p := ⟨w.heap.size, 1, none⟩) hbx).trans g1, (hB.cell (p := ⟨w.heap.size, 2, none⟩) hbx).trans g2, (hB.cell (p := ⟨w.heap.size, 3, none⟩) hbx).trans g3, (hB.cell (p := ⟨w.heap.size, 4, none⟩) hbx).trans g4, (hB.cell (p := ⟨w.heap.size, 5, none⟩) hbx).trans g5, (hB.cell (p := ⟨w.heap.size, 6, none⟩) hbx).trans g6⟩
          have q1 : ∀ w, (binOp .add 9 (.string ⟨t.toArray⟩) (.string ⟨#[44, 32]⟩)).run Tryz.prog w = .ok (.string ⟨(t ++ [44, 32]).toArray⟩) w := fun w => cat9 t [44, 32] (by simp; omega) w
          have q3 : ∀ w, (binOp .add 9 (.string ⟨(t ++ [44, 32]).toArray⟩) (.string ⟨u.toArray⟩)).run Tryz.prog w = .ok (.string ⟨(t ++ [44, 32] ++ u).toArray⟩) w := fun w => cat9 _ u (by simp; omega) w
          have q5 : ∀ w, (binOp .add 9 (.string ⟨t.toArray⟩) (.string ⟨u.toArray⟩)).run Tryz.prog w = .ok (.string ⟨(t ++ u).toArray⟩) w := fun w => cat9 _ u (by omega) w
          have HB := Lib.hid hB
          have HS := Lib.hid hstep
          have hw1 : w.heap.size < wr.heap.size := Nat.lt_of_lt_of_le hbx hB.size
          clear hi hR hu hstep hB ht
          by_cases hi0 : i = 0
          · subst hi0
            rw [show ((0 : Nat) : Int) = 0 from rfl]
            simp only [Nat.zero_mul, Nat.add_zero] at x0 x1 x2 x3 x4 x5 x6
            go_wp2_with (fail)
            have h1 : Below w1.heap.size w1 (wr.alloc (.cells #[.int .i64 k', .int .i64 l', .int .i64 s', .slice A3' m3 d3, .slice A4' m4 d4, .slice A5' m5 d5, .slice A6' m6 d6] 28)) := HB.out.trans (((Below.refl _ wr).alloc (Nat.le_refl _) _).mono HB.out.size)
            refine (HCL.out _ h1 (HBW.out.trans (h1.mono HBW.out.size))).mono ?_
            rintro e2 w2 ⟨rfl, hB2⟩
            have HB2 := Lib.hid (h1.trans (hB2.mono h1.size))
            clear h1 hB2
            go_wp2_with (fail)
            go_roundg (n - (0 + 1))
            case measure => have := HI.out; omega
            case rel => exact ⟨0 + 1, by omega, by go_num, rfl, by rw [HS.out, if_pos trivial, List.append_nil, app_ba], HB2.out⟩
          · have z0 : (0 : Int) < (i : Int) := by omega
            go_wp2_with (fail)
            have h1 : Below w1.heap.size w1 (wr.alloc (.cells #[.int .i64 k', .int .i64 l', .int .i64 s', .slice A3' m3 d3, .slice A4' m4 d4, .slice A5' m5 d5, .slice A6' m6 d6] 28)) := HB.out.trans (((Below.refl _ wr).alloc (Nat.le_refl _) _).mono HB.out.size)
            refine (HCL.out _ h1 (HBW.out.trans (h1.mono HBW.out.size))).mono ?_
            rintro e2 w2 ⟨rfl, hB2⟩
            have HB2 := Lib.hid (h1.trans (hB2.mono h1.size))
            clear h1 hB2
            go_wp2_with (fail)
            go_roundg (n - (i + 1))
            case measure => have := HI.out; omega
            case rel => exact ⟨i + 1, by omega, by go_num, rfl, by rw [HS.out, if_neg hi0, commaT, app_ba, app_ba], HB2.out⟩
        · have ei : i = n := by omega
          subst ei
          have q1 : ∀ w, (binOp .add 9 (.string ⟨t.toArray⟩) (.string ⟨#[41]⟩)).run Tryz.prog w = .ok (.string ⟨(t ++ [41]).toArray⟩) w := fun w => cat9 t [41] (by simp; omega) w
          have E : Hid (T = t ++ [41]) := Lib.hid (by rw [← HTT.out, ← ht]; rfl)
          have HB := Lib.hid hB
          clear hi ht hB
          go_wp2_with (fail)
          go_ret2
          refine ⟨?_, HBW.out.trans (HB.out.mono HBW.out.size)⟩
          rw [E.out, ← app_ba]
          rfl

set_option maxRecDepth 100000 in
set_option maxHeartbeats 4000000 in
theorem body16_5 (l s : Int) (A3 A4 A5 A6 : Option Addr) (n3 n4 n5 n6 c3 c4 c5 c6 : Nat) (w : World) (st : Nat) (d : Int) (top : Bool) (ps : List G) (pt : Nat → List UInt8) (hn9 : ps.length ≤ 2097152)
    (hpa : ∀ w', Below w.heap.size w w' → Calls Tryz.prog 47 #[.agg #[.int .i64 5, .int .i64 l, .int .i64 s, .slice A3 n3 c3, .slice A4 n4 c4, .slice A5 n5 c5, .slice A6 n6 c6]] w' (PartsRet ps w'))
    (hrd : ∀ i (hi : i < ps.length), ∀ c w', GAt w' c ps[i] → Below w.heap.size w w' → (fun v => Calls Tryz.prog 16 #[v, .int .i64 st, .int .i64 d, .bool false] w' (BodyRet (pt i) w')) (.agg #[c 0, c 1, c 2, c 3, c 4, c 5, c 6])) (hlen : (joinT pt ps.length).length ≤ 140737488355328) :
    Calls Tryz.prog 16 #[.agg #[.int .i64 5, .int .i64 l, .int .i64 s, .slice A3 n3 c3, .slice A4 n4 c4, .slice A5 n5 c5, .slice A6 n6 c6], .int .i64 st, .int .i64 d, .bool top] w (BodyRet (if ps.length = 0 then emptyT else inBr (joinT pt ps.length)) w) := by
  have HPA := Lib.hid hpa
  have HRD := Lib.hid hrd
  have HLEN := Lib.hid hlen
  obtain ⟨n, hn⟩ : ∃ n, ps.length = n := ⟨_, rfl⟩
  have HN := Lib.hid hn
  rw [hn] at hn9 ⊢
  clear hpa hrd hlen hn
  by_cases hE : n = 0
  · rw [if_pos hE]
    subst hE
    go_enter Tryz.func16, Tryz.ntmps16
    go_wp2_with (go_at_call 47; refine (HPA.out _ ((Below.refl _ w).alloc (Nat.le_refl _) _)).mono ?_; rintro e1 w1 ⟨v1, rfl, hv1, hB1⟩; obtain ⟨kc, hkr, hkg⟩ := hv1; rw [HN.out] at hkr; obtain ⟨Av, cv, rfl, hcv0, hcv1, _⟩ := id hkr; obtain ⟨g0, g1, g2, g3, g4, g5, g6⟩ := box_cells hB1; have HB1 := Lib.hid hB1; clear hB1 hkr hkg)
    go_ret2
    exact ⟨rfl, ((Below.refl _ w).alloc (Nat.le_refl _) _).trans (HB1.out.mono (by simp))⟩
  · rw [if_neg hE]
    obtain ⟨T, hT⟩ : ∃ T, inBr (joinT pt n) = T := ⟨_, rfl⟩
    have HTT := Lib.hid hT
    rw [hT]
    have hE1 : ¬ n = 0 := by omega
    have hE2 : ((n : Int) == 0) = false := beq_false_of_ne (by omega)
    have hJ : ∀ i, i ≤ n → (joinT pt i).length ≤ 140737488355328 := fun i hi => Nat.le_trans (joinT_length_le hi) (by have := HLEN.out; rw [HN.out] at this; exact this)
    have HJ := Lib.hid hJ
    clear hT hE hJ
    go_enter Tryz.func16, Tryz.ntmps16
    go_wp2_with (go_at_call 47; refine (HPA.out _ ((Below.refl _ w).alloc (Nat.le_refl _) _)).mono ?_; rintro e1 w1 ⟨v1, rfl, hv1, hB1⟩; obtain ⟨kc, hkr, hkg⟩ := hv1; rw [HN.out] at hkr; obtain ⟨Av, cv, rfl, hcv0, hcv1, _⟩ := id hkr; obtain ⟨g0, g1, g2, g3, g4, g5, g6⟩ := box_cells hB1; have HB1 := Lib.hid hB1; have HKR := Lib.hid hkr; have HKG := Lib.hid hkg; unfold maxLen at hcv1; clear hB1 hkr hkg)
    have hbx : w.heap.size < w1.heap.size := by have := HB1.out.size; simp at this; omega
    have hBw : Below w.heap.size w w1 := ((Below.refl _ w).alloc (Nat.le_refl _) _).trans (HB1.out.mono (by simp))
    have HBW := Lib.hid hBw
    clear hBw
    go_loopg [9, 11, 55] n (fun gk v9 v11 vc wr => ∃ i : Nat, i + gk = n ∧ vc = .int .i64 i ∧ v9 = .bool true ∧ v11 = .string ⟨([40] ++ joinT pt i).toArray⟩ ∧ Below w1.heap.size w1 wr)
    case atStart => exact ⟨0, by omega, rfl, rfl, rfl, Below.refl _ _⟩
    case round =>
      obtain ⟨i, hi, rfl, rfl, rfl, hB⟩ := hrel
      obtain ⟨t, ht⟩ : ∃ t, [40] ++ joinT pt i = t := ⟨_, rfl⟩
      have hlt1 : t.length ≤ 200000000000000 := by rw [← ht, List.length_append]; have := HJ.out i (by omega); simp; omega
      rw [ht]
      by_cases hlt : i < n
      · have HI := Lib.hid hi
        have hil : i < ps.length := by rw [HN.out]; exact hlt
        have hJ1 := HJ.out (i + 1) (by omega)
        have hR := fun c w' h => HRD.out i hil c w' h
        have hu1 : (pt i).length ≤ 140737488355328 := by
          have e : joinT pt (i + 1) = joinT pt i ++ (if i = 0 then [] else commaT) ++ pt i := rfl
          rw [e, List.length_append] at hJ1
          omega
        have hstep : [40] ++ joinT pt (i + 1) = t ++ (if i = 0 then [] else commaT) ++ pt i := by rw [← ht]; show [40] ++ (joinT pt i ++ _ ++ pt i) = _; simp
        obtain ⟨u, hu⟩ : ∃ u, pt i = u := ⟨_, rfl⟩
        rw [hu] at hstep hu1
        simp only [hu] at hR
        obtain ⟨b, o, k', l', s', A3', m3, d3, A4', m4, d4, A5', m5, d5, A6', m6, d6, rfl, hb, x0, x1, x2, x3, x4, x5, x6, HCL⟩ :=
          kid_at hB HKR.out hlt (HKG.out i hil) (R := fun v w' => Below w.heap.size w w' → Calls Tryz.prog 16 #[v, .int .i64 st, .int .i64 d, .bool false] w' (BodyRet u w')) hR
        obtain ⟨y0, y1, y2, y3, y4, y5, y6⟩ : wr.cell? ⟨w.heap.size, 0, none⟩ = _ ∧ wr.cell? ⟨w.heap.size, 1, none⟩ = _ ∧ wr.cell? ⟨w.heap.size, 2, none⟩ = _ ∧ wr.cell? ⟨w.heap.size, 3, none⟩ = _ ∧ wr.cell? ⟨w.heap.size, 4, none⟩ = _ ∧ wr.cell? ⟨w.heap.size, 5, none⟩ = _ ∧ wr.cell? ⟨w.heap.size, 6, none⟩ = _ :=
          ⟨(hB.cell (p := ⟨w.heap.size, 0, none⟩) hbx).trans g0, (hB.cell (p := ⟨w.heap.size, 1, none⟩) hbx).trans g1, (hB.cell (p := ⟨w.heap.size, 2, none⟩) hbx).trans g2, (hB.cell (p := ⟨w.heap.size, 3, none⟩) hbx).trans g3, (hB.cell (p := ⟨w.heap.size, 4, none⟩) hbx).trans g4, (hB.cell (p := ⟨w.heap.size, 5, none⟩) hbx).trans g5, (hB.cell (p := ⟨w.heap.size, 6, none⟩) hbx).trans g6⟩
        have q1 : ∀ w, (binOp .add 9 (.string ⟨t.toArray⟩) (.string ⟨#[44, 32]⟩)).run Tryz.prog w = .ok (.string ⟨(t ++ [44, 32]).toArray⟩) w := fun w => cat9 t [44, 32] (by simp; omega) w
        have q3 : ∀ w, (binOp .add 9 (.string ⟨(t ++ [44, 32]).toArray⟩) (.string ⟨u.toArray⟩)).run Tryz.prog w = .ok (.string ⟨(t ++ [44, 32] ++ u).toArray⟩) w := fun w => cat9 _ u (by simp; omega) w
        have q5 : ∀ w, (binOp .add 9 (.string ⟨t.toArray⟩) (.string ⟨u.toArray⟩)).run Tryz.prog w = .ok (.string ⟨(t ++ u).toArray⟩) w := fun w => cat9 _ u (by omega) w
        have HB := Lib.hid hB
        have HS := Lib.hid hstep
        have hw1 : w.heap.size < wr.heap.size := Nat.lt_of_lt_of_le hbx hB.size
        clear hi hR hu hstep hB ht
        by_cases hi0 : i = 0
        · subst hi0
          rw [show ((0 : Nat) : Int) = 0 from rfl]
          simp only [Nat.zero_mul, Nat.add_zero] at x0 x1 x2 x3 x4 x5 x6
          go_wp2_with (fail)
          have h1 : Below w1.heap.size w1 (wr.alloc (.cells #[.int .i64 k', .int .i64 l', .int .i64 s', .slice A3' m3 d3, .slice A4' m4 d4, .slice A5' m5 d5, .slice A6' m6 d6] 28)) := HB.out.trans (((Below.refl _ wr).alloc (Nat.le_refl _) _).mono HB.out.size)
          refine (HCL.out _ h1 (HBW.out.trans (h1.mono HBW.out.size))).mono ?_
          rintro e2 w2 ⟨rfl, hB2⟩
          have HB2 := Lib.hid (h1.trans (hB2.mono h1.size))
          clear h1 hB2
          go_wp2_with (fail)
          go_roundg (n - (0 + 1))
          case measure => have := HI.out; omega
          case rel => exact ⟨0 + 1, by omega, by go_num, rfl, by rw [HS.out, if_pos trivial, List.append_nil, app_ba], HB2.out⟩
        · have z0 : (0 : Int) < (i : Int) := by omega
          go_wp2_with (fail)
          have h1 : Below w1.heap.size w1 (wr.alloc (.cells #[.int .i64 k', .int .i64 l', .int .i64 s', .slice A3' m3 d3, .slice A4' m4 d4, .slice A5' m5 d5, .slice A6' m6 d6] 28)) := HB.out.trans (((Below.refl _ wr).alloc (Nat.le_refl _) _).mono HB.out.size)
          refine (HCL.out _ h1 (HBW.out.trans (h1.mono HBW.out.size))).mono ?_
          rintro e2 w2 ⟨rfl, hB2⟩
          have HB2 := Lib.hid (h1.trans (hB2.mono h1.size))
          clear h1 hB2
          go_wp2_with (fail)
          go_roundg (n - (i + 1))
          case measure => have := HI.out; omega
          case rel => exact ⟨i + 1, by omega, by go_num, rfl, by rw [HS.out, if_neg hi0, commaT, app_ba, app_ba], HB2.out⟩
      · have ei : i = n := by omega
        subst ei
        have q1 : ∀ w, (binOp .add 9 (.string ⟨t.toArray⟩) (.string ⟨#[41]⟩)).run Tryz.prog w = .ok (.string ⟨(t ++ [41]).toArray⟩) w := fun w => cat9 t [41] (by simp; omega) w
        have E : Hid (T = t ++ [41]) := Lib.hid (by rw [← HTT.out, ← ht]; rfl)
        have HB := Lib.hid hB
        clear hi ht hB
        go_wp2_with (fail)
        go_ret2
        refine ⟨?_, HBW.out.trans (HB.out.mono HBW.out.size)⟩
        rw [E.out, ← app_ba]
        rfl

set_option maxRecDepth 100000 in
set_option maxHeartbeats 4000000 in
theorem body16_6 (l s : Int) (A3 A4 A5 A6 : Option Addr) (n3 n4 n5 n6 c3 c4 c5 c6 : Nat) (w : World) (st : Nat) (d : Int) (top : Bool) (ps : List G) (pt : Nat → List UInt8) (hn9 : ps.length ≤ 2097152)
    (hpa : ∀ w', Below w.heap.size w w' → Calls Tryz.prog 47 #[.agg #[.int .i64 6, .int .i64 l, .int .i64 s, .slice A3 n3 c3, .slice A4 n4 c4, .slice A5 n5 c5, .slice A6 n6 c6]] w' (PartsRet ps w'))
    (hrd : ∀ i (hi : i < ps.length), ∀ c w', GAt w' c ps[i] → Below w.heap.size w w' → (fun v => Calls Tryz.prog 16 #[v, .int .i64 st, .int .i64 d, .bool false] w' (BodyRet (pt i) w')) (.agg #[c 0, c 1, c 2, c 3, c 4, c 5, c 6])) (hlen : (joinT pt ps.length).length ≤ 140737488355328) :
    Calls Tryz.prog 16 #[.agg #[.int .i64 6, .int .i64 l, .int .i64 s, .slice A3 n3 c3, .slice A4 n4 c4, .slice A5 n5 c5, .slice A6 n6 c6], .int .i64 st, .int .i64 d, .bool top] w (BodyRet (if ps.length = 0 then emptyT else inBr (joinT pt ps.length)) w) := by
  have HPA := Lib.hid hpa
  have HRD := Lib.hid hrd
  have HLEN := Lib.hid hlen
  obtain ⟨n, hn⟩ : ∃ n, ps.length = n := ⟨_, rfl⟩
  have HN := Lib.hid hn
  rw [hn] at hn9 ⊢
  clear hpa hrd hlen hn
  by_cases hE : n = 0
  · rw [if_pos hE]
    subst hE
    go_enter Tryz.func16, Tryz.ntmps16
    go_wp2_with (go_at_call 47; refine (HPA.out _ ((Below.refl _ w).alloc (Nat.le_refl _) _)).mono ?_; rintro e1 w1 ⟨v1, rfl, hv1, hB1⟩; obtain ⟨kc, hkr, hkg⟩ := hv1; rw [HN.out] at hkr; obtain ⟨Av, cv, rfl, hcv0, hcv1, _⟩ := id hkr; obtain ⟨g0, g1, g2, g3, g4, g5, g6⟩ := box_cells hB1; have HB1 := Lib.hid hB1; clear hB1 hkr hkg)
    go_ret2
    exact ⟨rfl, ((Below.refl _ w).alloc (Nat.le_refl _) _).trans (HB1.out.mono (by simp))⟩
  · rw [if_neg hE]
    obtain ⟨T, hT⟩ : ∃ T, inBr (joinT pt n) = T := ⟨_, rfl⟩
    have HTT := Lib.hid hT
    rw [hT]
    have hE1 : ¬ n = 0 := by omega
    have hE2 : ((n : Int) == 0) = false := beq_false_of_ne (by omega)
    have hJ : ∀ i, i ≤ n → (joinT pt i).length ≤ 140737488355328 := fun i hi => Nat.le_trans (joinT_length_le hi) (by have := HLEN.out; rw [HN.out] at this; exact this)
    have HJ := Lib.hid hJ
    clear hT hE hJ
    go_enter Tryz.func16, Tryz.ntmps16
    go_wp2_with (go_at_call 47; refine (HPA.out _ ((Below.refl _ w).alloc (Nat.le_refl _) _)).mono ?_; rintro e1 w1 ⟨v1, rfl, hv1, hB1⟩; obtain ⟨kc, hkr, hkg⟩ := hv1; rw [HN.out] at hkr; obtain ⟨Av, cv, rfl, hcv0, hcv1, _⟩ := id hkr; obtain ⟨g0, g1, g2, g3, g4, g5, g6⟩ := box_cells hB1; have HB1 := Lib.hid hB1; have HKR := Lib.hid hkr; have HKG := Lib.hid hkg; unfold maxLen at hcv1; clear hB1 hkr hkg)
    have hbx : w.heap.size < w1.heap.size := by have := HB1.out.size; simp at this; omega
    have hBw : Below w.heap.size w w1 := ((Below.refl _ w).alloc (Nat.le_refl _) _).trans (HB1.out.mono (by simp))
    have HBW := Lib.hid hBw
    clear hBw
    go_loopg [9, 11, 55] n (fun gk v9 v11 vc wr => ∃ i : Nat, i + gk = n ∧ vc = .int .i64 i ∧ v9 = .bool true ∧ v11 = .string ⟨([40] ++ joinT pt i).toArray⟩ ∧ Below w1.heap.size w1 wr)
    case atStart => exact ⟨0, by omega, rfl, rfl, rfl, Below.refl _ _⟩
    case round =>
      obtain ⟨i, hi, rfl, rfl, rfl, hB⟩ := hrel
      obtain ⟨t, ht⟩ : ∃ t, [40] ++ joinT pt i = t := ⟨_, rfl⟩
      have hlt1 : t.length ≤ 200000000000000 := by rw [← ht, List.length_append]; have := HJ.out i (by omega); simp; omega
      rw [ht]
      by_cases hlt : i < n
      · have HI := Lib.hid hi
        have hil : i < ps.length := by rw [HN.out]; exact hlt
        have hJ1 := HJ.out (i + 1) (by omega)
        have hR := fun c w' h => HRD.out i hil c w' h
        have hu1 : (pt i).length ≤ 140737488355328 := by
          have e : joinT pt (i + 1) = joinT pt i ++ (if i = 0 then [] else commaT) ++ pt i := rfl
          rw [e, List.length_append] at hJ1
          omega
        have hstep : [40] ++ joinT pt (i + 1) = t ++ (if i = 0 then [] else commaT) ++ pt i := by rw [← ht]; show [40] ++ (joinT pt i ++ _ ++ pt i) = _; simp
        obtain ⟨u, hu⟩ : ∃ u, pt i = u := ⟨_, rfl⟩
        rw [hu] at hstep hu1
        simp only [hu] at hR
        obtain ⟨b, o, k', l', s', A3', m3, d3, A4', m4, d4, A5', m5, d5, A6', m6, d6, rfl, hb, x0, x1, x2, x3, x4, x5, x6, HCL⟩ :=
          kid_at hB HKR.out hlt (HKG.out i hil) (R := fun v w' => Below w.heap.size w w' → Calls Tryz.prog 16 #[v, .int .i64 st, .int .i64 d, .bool false] w' (BodyRet u w')) hR
        obtain ⟨y0, y1, y2, y3, y4, y5, y6⟩ : wr.cell? ⟨w.heap.size, 0, none⟩ = _ ∧ wr.cell? ⟨w.heap.size, 1, none⟩ = _ ∧ wr.cell? ⟨w.heap.size, 2, none⟩ = _ ∧ wr.cell? ⟨w.heap.size, 3, none⟩ = _ ∧ wr.cell? ⟨w.heap.size, 4, none⟩ = _ ∧ wr.cell? ⟨w.heap.size, 5, none⟩ = _ ∧ wr.cell? ⟨w.heap.size, 6, none⟩ = _ :=
          ⟨(hB.cell (p := ⟨w.heap.size, 0, none⟩) hbx).trans g0, (hB.cell (p := ⟨w.heap.size, 1, none⟩) hbx).trans g1, (hB.cell (p := ⟨w.heap.size, 2, none⟩) hbx).trans g2, (hB.cell (p := ⟨w.heap.size, 3, none⟩) hbx).trans g3, (hB.cell (p := ⟨w.heap.size, 4, none⟩) hbx).trans g4, (hB.cell (p := ⟨w.heap.size, 5, none⟩) hbx).trans g5, (hB.cell (p := ⟨w.heap.size, 6, none⟩) hbx).trans g6⟩
        have q1 : ∀ w, (binOp .add 9 (.string ⟨t.toArray⟩) (.string ⟨#[44, 32]⟩)).run Tryz.prog w = .ok (.string ⟨(t ++ [44, 32]).toArray⟩) w := fun w => cat9 t [44, 32] (by simp; omega) w
        have q3 : ∀ w, (binOp .add 9 (.string ⟨(t ++ [44, 32]).toArray⟩) (.string ⟨u.toArray⟩)).run Tryz.prog w = .ok (.string ⟨(t ++ [44, 32] ++ u).toArray⟩) w := fun w => cat9 _ u (by simp; omega) w
        have q5 : ∀ w, (binOp .add 9 (.string ⟨t.toArray⟩) (.string ⟨u.toArray⟩)).run Tryz.prog w = .ok (.string ⟨(t ++ u).toArray⟩) w := fun w => cat9 _ u (by omega) w
        have HB := Lib.hid hB
        have HS := Lib.hid hstep
        have hw1 : w.heap.size < wr.heap.size := Nat.lt_of_lt_of_le hbx hB.size
        clear hi hR hu hstep hB ht
        by_cases hi0 : i = 0
        · subst hi0
          rw [show ((0 : Nat) : Int) = 0 from rfl]
          simp only [Nat.zero_mul, Nat.add_zero] at x0 x1 x2 x3 x4 x5 x6
          go_wp2_with (fail)
          have h1 : Below w1.heap.size w1 (wr.alloc (.cells #[.int .i64 k', .int .i64 l', .int .i64 s', .slice A3' m3 d3, .slice A4' m4 d4, .slice A5' m5 d5, .slice A6' m6 d6] 28)) := HB.out.trans (((Below.refl _ wr).alloc (Nat.le_refl _) _).mono HB.out.size)
          refine (HCL.out _ h1 (HBW.out.trans (h1.mono HBW.out.size))).mono ?_
          rintro e2 w2 ⟨rfl, hB2⟩
          have HB2 := Lib.hid (h1.trans (hB2.mono h1.size))
          clear h1 hB2
          go_wp2_with (fail)
          go_roundg (n - (0 + 1))
          case measure => have := HI.out; omega
          case rel => exact ⟨0 + 1, by omega, by go_num, rfl, by rw [HS.out, if_pos trivial, List.append_nil, app_ba], HB2.out⟩
        · have z0 : (0 : Int) < (i : Int) := by omega
          go_wp2_with (fail)
          have h1 : Below w1.heap.size w1 (wr.alloc (.cells #[.int .i64 k', .int .i64 l', .int .i64 s', .slice A3' m3 d3, .slice A4' m4 d4, .slice A5' m5 d5, .slice A6' m6 d6] 28)) := HB.out.trans (((Below.refl _ wr).alloc (Nat.le_refl _) _).mono HB.out.size)
          refine (HCL.out _ h1 (HBW.out.trans (h1.mono HBW.out.size))).mono ?_
          rintro e2 w2 ⟨rfl, hB2⟩
          have HB2 := Lib.hid (h1.trans (hB2.mono h1.size))
          clear h1 hB2
          go_wp2_with (fail)
          go_roundg (n - (i + 1))
          case measure => have := HI.out; omega
          case rel => exact ⟨i + 1, by omega, by go_num, rfl, by rw [HS.out, if_neg hi0, commaT, app_ba, app_ba], HB2.out⟩
      · have ei : i = n := by omega
        subst ei
        have q1 : ∀ w, (binOp .add 9 (.string ⟨t.toArray⟩) (.string ⟨#[41]⟩)).run Tryz.prog w = .ok (.string ⟨(t ++ [41]).toArray⟩) w := fun w => cat9 t [41] (by simp; omega) w
        have E : Hid (T = t ++ [41]) := Lib.hid (by rw [← HTT.out, ← ht]; rfl)
        have HB := Lib.hid hB
        clear hi ht hB
        go_wp2_with (fail)
        go_ret2
        refine ⟨?_, HBW.out.trans (HB.out.mono HBW.out.size)⟩
        rw [E.out, ← app_ba]
        rfl

set_option maxRecDepth 100000 in
set_option maxHeartbeats 4000000 in
theorem body16_7 (l s : Int) (A3 A4 A5 A6 : Option Addr) (n3 n4 n5 n6 c3 c4 c5 c6 : Nat) (w : World) (st : Nat) (d : Int) (top : Bool) (ps : List G) (pt : Nat → List UInt8) (hn9 : ps.length ≤ 2097152)
    (hpa : ∀ w', Below w.heap.size w w' → Calls Tryz.prog 47 #[.agg #[.int .i64 7, .int .i64 l, .int .i64 s, .slice A3 n3 c3, .slice A4 n4 c4, .slice A5 n5 c5, .slice A6 n6 c6]] w' (PartsRet ps w'))
    (hrd : ∀ i (hi : i < ps.length), ∀ c w', GAt w' c ps[i] → Below w.heap.size w w' → (fun v => Calls Tryz.prog 7 #[v, .int .i64 d] w' (BodyRet (pt i) w')) (.agg #[c 0, c 1, c 2, c 3, c 4, c 5, c 6])) (hlen : (joinT pt ps.length).length ≤ 140737488355328) :
    Calls Tryz.prog 16 #[.agg #[.int .i64 7, .int .i64 l, .int .i64 s, .slice A3 n3 c3, .slice A4 n4 c4, .slice A5 n5 c5, .slice A6 n6 c6], .int .i64 st, .int .i64 d, .bool top] w (BodyRet (if ps.length = 0 then emptyT else inBr (joinT pt ps.length)) w) := by
  have HPA := Lib.hid hpa
  have HRD := Lib.hid hrd
  have HLEN := Lib.hid hlen
  obtain ⟨n, hn⟩ : ∃ n, ps.length = n := ⟨_, rfl⟩
  have HN := Lib.hid hn
  rw [hn] at hn9 ⊢
  clear hpa hrd hlen hn
  by_cases hE : n = 0
  · rw [if_pos hE]
    subst hE
    go_enter Tryz.func16, Tryz.ntmps16
    go_wp2_with (go_at_call 47; refine (HPA.out _ ((Below.refl _ w).alloc (Nat.le_refl _) _)).mono ?_; rintro e1 w1 ⟨v1, rfl, hv1, hB1⟩; obtain ⟨kc, hkr, hkg⟩ := hv1; rw [HN.out] at hkr; obtain ⟨Av, cv, rfl, hcv0, hcv1, _⟩ := id hkr; obtain ⟨g0, g1, g2, g3, g4, g5, g6⟩ := box_cells hB1; have HB1 := Lib.hid hB1; clear hB1 hkr hkg)
    go_ret2
    exact ⟨rfl, ((Below.refl _ w).alloc (Nat.le_refl _) _).trans (HB1.out.mono (by simp))⟩
  · rw [if_neg hE]
    obtain ⟨T, hT⟩ : ∃ T, inBr (joinT pt n) = T := ⟨_, rfl⟩
    have HTT := Lib.hid hT
    rw [hT]
    have hE1 : ¬ n = 0 := by omega
    have hE2 : ((n : Int) == 0) = false := beq_false_of_ne (by omega)
    have hJ : ∀ i, i ≤ n → (joinT pt i).length ≤ 140737488355328 := fun i hi => Nat.le_trans (joinT_length_le hi) (by have := HLEN.out; rw [HN.out] at this; exact this)
    have HJ := Lib.hid hJ
    clear hT hE hJ
    go_enter Tryz.func16, Tryz.ntmps16
    go_wp2_with (go_at_call 47; refine (HPA.out _ ((Below.refl _ w).alloc (Nat.le_refl _) _)).mono ?_; rintro e1 w1 ⟨v1, rfl, hv1, hB1⟩; obtain ⟨kc, hkr, hkg⟩ := hv1; rw [HN.out] at hkr; obtain ⟨Av, cv, rfl, hcv0, hcv1, _⟩ := id hkr; obtain ⟨g0, g1, g2, g3, g4, g5, g6⟩ := box_cells hB1; have HB1 := Lib.hid hB1; have HKR := Lib.hid hkr; have HKG := Lib.hid hkg; unfold maxLen at hcv1; clear hB1 hkr hkg)
    have hbx : w.heap.size < w1.heap.size := by have := HB1.out.size; simp at this; omega
    have hBw : Below w.heap.size w w1 := ((Below.refl _ w).alloc (Nat.le_refl _) _).trans (HB1.out.mono (by simp))
    have HBW := Lib.hid hBw
    clear hBw
    go_loopg [9, 11, 55] n (fun gk v9 v11 vc wr => ∃ i : Nat, i + gk = n ∧ vc = .int .i64 i ∧ v9 = .bool true ∧ v11 = .string ⟨([40] ++ joinT pt i).toArray⟩ ∧ Below w1.heap.size w1 wr)
    case atStart => exact ⟨0, by omega, rfl, rfl, rfl, Below.refl _ _⟩
    case round =>
      obtain ⟨i, hi, rfl, rfl, rfl, hB⟩ := hrel
      obtain ⟨t, ht⟩ : ∃ t, [40] ++ joinT pt i = t := ⟨_, rfl⟩
      have hlt1 : t.length ≤ 200000000000000 := by rw [← ht, List.length_append]; have := HJ.out i (by omega); simp; omega
      rw [ht]
      by_cases hlt : i < n
      · have HI := Lib.hid hi
        have hil : i < ps.length := by rw [HN.out]; exact hlt
        have hJ1 := HJ.out (i + 1) (by omega)
        have hR := fun c w' h => HRD.out i hil c w' h
        have hu1 : (pt i).length ≤ 140737488355328 := by
          have e : joinT pt (i + 1) = joinT pt i ++ (if i = 0 then [] else commaT) ++ pt i := rfl
          rw [e, List.length_append] at hJ1
          omega
        have hstep : [40] ++ joinT pt (i + 1) = t ++ (if i = 0 then [] else commaT) ++ pt i := by rw [← ht]; show [40] ++ (joinT pt i ++ _ ++ pt i) = _; simp
        obtain ⟨u, hu⟩ : ∃ u, pt i = u := ⟨_, rfl⟩
        rw [hu] at hstep hu1
        simp only [hu] at hR
        obtain ⟨b, o, k', l', s', A3', m3, d3, A4', m4, d4, A5', m5, d5, A6', m6, d6, rfl, hb, x0, x1, x2, x3, x4, x5, x6, HCL⟩ :=
          kid_at hB HKR.out hlt (HKG.out i hil) (R := fun v w' => Below w.heap.size w w' → Calls Tryz.prog 7 #[v, .int .i64 d] w' (BodyRet u w')) hR
        obtain ⟨y0, y1, y2, y3, y4, y5, y6⟩ : wr.cell? ⟨w.heap.size, 0, none⟩ = _ ∧ wr.cell? ⟨w.heap.size, 1, none⟩ = _ ∧ wr.cell? ⟨w.heap.size, 2, none⟩ = _ ∧ wr.cell? ⟨w.heap.size, 3, none⟩ = _ ∧ wr.cell? ⟨w.heap.size, 4, none⟩ = _ ∧ wr.cell? ⟨w.heap.size, 5, none⟩ = _ ∧ wr.cell? ⟨w.heap.size, 6, none⟩ = _ :=
          ⟨(hB.cell (p := ⟨w.heap.size, 0, none⟩) hbx).trans g0, (hB.cell (p := ⟨w.heap.size, 1, none⟩) hbx).trans g1, (hB.cell (p := ⟨w.heap.size, 2, none⟩) hbx).trans g2, (hB.cell (p := ⟨w.heap.size, 3, none⟩) hbx).trans g3, (hB.cell (p := ⟨w.heap.size, 4, none⟩) hbx).trans g4, (hB.cell (p := ⟨w.heap.size, 5, none⟩) hbx).trans g5, (hB.cell (p := ⟨w.heap.size, 6, none⟩) hbx).trans g6⟩
        have q1 : ∀ w, (binOp .add 9 (.string ⟨t.toArray⟩) (.string ⟨#[44, 32]⟩)).run Tryz.prog w = .ok (.string ⟨(t ++ [44, 32]).toArray⟩) w := fun w => cat9 t [44, 32] (by simp; omega) w
        have q3 : ∀ w, (binOp .add 9 (.string ⟨(t ++ [44, 32]).toArray⟩) (.string ⟨u.toArray⟩)).run Tryz.prog w = .ok (.string ⟨(t ++ [44, 32] ++ u).toArray⟩) w := fun w => cat9 _ u (by simp; omega) w
        have q5 : ∀ w, (binOp .add 9 (.string ⟨t.toArray⟩) (.string ⟨u.toArray⟩)).run Tryz.prog w = .ok (.string ⟨(t ++ u).toArray⟩) w := fun w => cat9 _ u (by omega) w
        have HB := Lib.hid hB
        have HS := Lib.hid hstep
        have hw1 : w.heap.size < wr.heap.size := Nat.lt_of_lt_of_le hbx hB.size
        clear hi hR hu hstep hB ht
        by_cases hi0 : i = 0
        · subst hi0
          rw [show ((0 : Nat) : Int) = 0 from rfl]
          simp only [Nat.zero_mul, Nat.add_zero] at x0 x1 x2 x3 x4 x5 x6
          go_wp2_with (fail)
          have h1 : Below w1.heap.size w1 (wr.alloc (.cells #[.int .i64 k', .int .i64 l', .int .i64 s', .slice A3' m3 d3, .slice A4' m4 d4, .slice A5' m5 d5, .slice A6' m6 d6] 28)) := HB.out.trans (((Below.refl _ wr).alloc (Nat.le_refl _) _).mono HB.out.size)
          refine (HCL.out _ h1 (HBW.out.trans (h1.mono HBW.out.size))).mono ?_
          rintro e2 w2 ⟨rfl, hB2⟩
          have HB2 := Lib.hid (h1.trans (hB2.mono h1.size))
          clear h1 hB2
          go_wp2_with (fail)
          go_roundg (n - (0 + 1))
          case measure => have := HI.out; omega
          case rel => exact ⟨0 + 1, by omega, by go_num, rfl, by rw [HS.out, if_pos trivial, List.append_nil, app_ba], HB2.out⟩
        · have z0 : (0 : Int) < (i : Int) := by omega
          go_wp2_with (fail)
          have h1 : Below w1.heap.size w1 (wr.alloc (.cells #[.int .i64 k', .int .i64 l', .int .i64 s', .slice A3' m3 d3, .slice A4' m4 d4, .slice A5' m5 d5, .slice A6' m6 d6] 28)) := HB.out.trans (((Below.refl _ wr).alloc (Nat.le_refl _) _).mono HB.out.size)
          refine (HCL.out _ h1 (HBW.out.trans (h1.mono HBW.out.size))).mono ?_
          rintro e2 w2 ⟨rfl, hB2⟩
          have HB2 := Lib.hid (h1.trans (hB2.mono h1.size))
          clear h1 hB2
          go_wp2_with (fail)
          go_roundg (n - (i + 1))
          case measure => have := HI.out; omega
          case rel => exact ⟨i + 1, by omega, by go_num, rfl, by rw [HS.out, if_neg hi0, commaT, app_ba, app_ba], HB2.out⟩
      · have ei : i = n := by omega
        subst ei
        have q1 : ∀ w, (binOp .add 9 (.string ⟨t.toArray⟩) (.string ⟨#[41]⟩)).run Tryz.prog w = .ok (.string ⟨(t ++ [41]).toArray⟩) w := fun w => cat9 t [41] (by simp; omega) w
        have E : Hid (T = t ++ [41]) := Lib.hid (by rw [← HTT.out, ← ht]; rfl)
        have HB := Lib.hid hB
        clear hi ht hB
        go_wp2_with (fail)
        go_ret2
        refine ⟨?_, HBW.out.trans (HB.out.mono HBW.out.size)⟩
        rw [E.out, ← app_ba]
        rfl
end Go.Proofs.YtokmamakmaojpaaGreatDoor

/-
  K7. The specification: the body of geometries with parts.
  K8. The specification: the bodies of polygons and lines.
  K9. The specification: the bodies of several points and polygons.
  K10. The specification: the bodies of several polygons.
-/
import Derived.Test.YtokmamakmaojpaaGreatDoorM36
import Derived.Test.YtokmamakmaojpaaGreatDoorM33
set_option linter.unusedVariables false
set_option linter.unusedSimpArgs false
set_option linter.unnecessarySimpa false
/- K7. -/
namespace Go.Proofs.YtokmamakmaojpaaGreatDoor
open Go.RowKit
attribute [local go_sem] no_yield

set_option maxRecDepth 100000 in
set_option maxHeartbeats 4000000 in
theorem ext_inBr (u : List UInt8) : (⟨(inBr u).toArray⟩ : ByteArray).extract 1 (u.length + 1) = ⟨u.toArray⟩ := by
  apply ByteArray.ext
  rw [ByteArray.data_extract]
  simp [inBr]
/-- The numbers of a geometry by value. -/
def cell3 : Value → Value
  | .agg cs => cs.getD 3 undef
  | _ => undef
/-- What the round of a MultiPoint asks. -/
def RoundP (st : Nat) (d : Int) (u : List UInt8) (v : Value) (w : World) : Prop := ∀ A m cc, cell3 v = .slice A m cc →
  (m = 0 → Calls Tryz.prog 16 #[v, .int .i64 st, .int .i64 d, .bool false] w (BodyRet u w)) ∧ (m ≠ 0 → Calls Tryz.prog 48 #[.slice A m cc, .int .i64 st, .int .i64 d] w (Ret (.string ⟨(inBr u).toArray⟩) w))
set_option maxRecDepth 100000 in
set_option maxHeartbeats 4000000 in
theorem body16_4 (l s : Int) (A3 A4 A5 A6 : Option Addr) (n3 n4 n5 n6 c3 c4 c5 c6 : Nat) (w : World) (st : Nat) (d : Int) (top : Bool) (ps : List G) (pt : Nat → List UInt8) (hn9 : ps.length ≤ 2097152)
    (hpa : ∀ w', Below w.heap.size w w' → Calls Tryz.prog 47 #[.agg #[.int .i64 4, .int .i64 l, .int .i64 s, .slice A3 n3 c3, .slice A4 n4 c4, .slice A5 n5 c5, .slice A6 n6 c6]] w' (PartsRet ps w'))
    (hrd : ∀ i (hi : i < ps.length), ∀ c w', GAt w' c ps[i] → Below w.heap.size w w' → (fun v => RoundP st d (pt i) v w') (.agg #[c 0, c 1, c 2, c 3, c 4, c 5, c 6])) (hlen : (joinT pt ps.length).length ≤ 140737488355328) :
    Calls Tryz.prog 16 #[.agg #[.int .i64 4, .int .i64 l, .int .i64 s, .slice A3 n3 c3, .slice A4 n4 c4, .slice A5 n5 c5, .slice A6 n6 c6], .int .i64 st, .int .i64 d, .bool top] w (BodyRet (if ps.length = 0 then emptyT else inBr (joinT pt ps.length)) w) := by
  have HPA := Lib.hid hpa
  have HRD := Lib.hid hrd
  have HLEN := Lib.hid hlen
  obtain ⟨n, hn⟩ : ∃ n, ps.length = n := ⟨_, rfl⟩
  have HN := Lib.hid hn
  rw [hn] at hn9 ⊢
  clear hpa hrd hlen hn
  by_cases hE : n = 0
  · rw [if_pos hE]
    subst hE
    go_enter Tryz.func16, Tryz.ntmps16
    go_wp2_with (go_at_call 47; refine (HPA.out _ ((Below.refl _ w).alloc (Nat.le_refl _) _)).mono ?_; rintro e1 w1 ⟨v1, rfl, hv1, hB1⟩; obtain ⟨kc, hkr, hkg⟩ := hv1; rw [HN.out] at hkr; obtain ⟨Av, cv, rfl, hcv0, hcv1, _⟩ := id hkr; obtain ⟨g0, g1, g2, g3, g4, g5, g6⟩ := box_cells hB1; have HB1 := Lib.hid hB1; clear hB1 hkr hkg)
    go_ret2
    exact ⟨rfl, ((Below.refl _ w).alloc (Nat.le_refl _) _).trans (HB1.out.mono (by simp))⟩
  · rw [if_neg hE]
    obtain ⟨T, hT⟩ : ∃ T, inBr (joinT pt n) = T := ⟨_, rfl⟩
    have HTT := Lib.hid hT
    rw [hT]
    have hE1 : ¬ n = 0 := by omega
    have hE2 : ((n : Int) == 0) = false := beq_false_of_ne (by omega)
    have hJ : ∀ i, i ≤ n → (joinT pt i).length ≤ 140737488355328 := fun i hi => Nat.le_trans (joinT_length_le hi) (by have := HLEN.out; rw [HN.out] at this; exact this)
    have HJ := Lib.hid hJ
    clear hT hE hJ
    go_enter Tryz.func16, Tryz.ntmps16
    go_wp2_with (go_at_call 47; refine (HPA.out _ ((Below.refl _ w).alloc (Nat.le_refl _) _)).mono ?_; rintro e1 w1 ⟨v1, rfl, hv1, hB1⟩; obtain ⟨kc, hkr, hkg⟩ := hv1; rw [HN.out] at hkr; obtain ⟨Av, cv, rfl, hcv0, hcv1, _⟩ := id hkr; obtain ⟨g0, g1, g2, g3, g4, g5, g6⟩ := box_cells hB1; have HB1 := Lib.hid hB1; have HKR := Lib.hid hkr; have HKG := Lib.hid hkg; unfold maxLen at hcv1; clear hB1 hkr hkg)
    have hbx : w.heap.size < w1.heap.size := by have := HB1.out.size; simp at this; omega
    have hBw : Below w.heap.size w w1 := ((Below.refl _ w).alloc (Nat.le_refl _) _).trans (HB1.out.mono (by simp))
    have HBW := Lib.hid hBw
    clear hBw
    go_loopg [9, 11, 55] n (fun gk v9 v11 vc wr => ∃ i : Nat, i + gk = n ∧ vc = .int .i64 i ∧ v9 = .bool true ∧ v11 = .string ⟨([40] ++ joinT pt i).toArray⟩ ∧ Below w1.heap.size w1 wr)
    case atStart => exact ⟨0, by omega, rfl, rfl, rfl, Below.refl _ _⟩
    case round =>
      obtain ⟨i, hi, rfl, rfl, rfl, hB⟩ := hrel
      obtain ⟨t, ht⟩ : ∃ t, [40] ++ joinT pt i = t := ⟨_, rfl⟩
      have hlt1 : t.length ≤ 200000000000000 := by rw [← ht, List.length_append]; have := HJ.out i (by omega); simp; omega
      rw [ht]
      by_cases hlt : i < n
      · have HI := Lib.hid hi
        have hil : i < ps.length := by rw [HN.out]; exact hlt
        have hJ1 := HJ.out (i + 1) (by omega)
        have hR := fun c w' h => HRD.out i hil c w' h
        have hu1 : (pt i).length ≤ 140737488355328 := by
          have e : joinT pt (i + 1) = joinT pt i ++ (if i = 0 then [] else commaT) ++ pt i := rfl
          rw [e, List.length_append] at hJ1
          omega
        have hstep : [40] ++ joinT pt (i + 1) = t ++ (if i = 0 then [] else commaT) ++ pt i := by rw [← ht]; show [40] ++ (joinT pt i ++ _ ++ pt i) = _; simp
        obtain ⟨u, hu⟩ : ∃ u, pt i = u := ⟨_, rfl⟩
        rw [hu] at hstep hu1
        simp only [hu] at hR
        obtain ⟨b, o, k', l', s', A3', m3, d3, A4', m4, d4, A5', m5, d5, A6', m6, d6, rfl, hb, x0, x1, x2, x3, x4, x5, x6, HCL⟩ :=
          kid_at hB HKR.out hlt (HKG.out i hil) (R := fun v w' => Below w.heap.size w w' → RoundP st d u v w') hR
        obtain ⟨y0, y1, y2, y3, y4, y5, y6⟩ : wr.cell? ⟨w.heap.size, 0, none⟩ = _ ∧ wr.cell? ⟨w.heap.size, 1, none⟩ = _ ∧ wr.cell? ⟨w.heap.size, 2, none⟩ = _ ∧ wr.cell? ⟨w.heap.size, 3, none⟩ = _ ∧ wr.cell? ⟨w.heap.size, 4, none⟩ = _ ∧ wr.cell? ⟨w.heap.size, 5, none⟩ = _ ∧ wr.cell? ⟨w.heap.size, 6, none⟩ = _ :=
          ⟨(hB.cell (p := ⟨w.heap.size, 0, none⟩) hbx).trans g0, (hB.cell (p := ⟨w.heap.size, 1, none⟩) hbx).trans g1, (hB.cell (p := ⟨w.heap.size, 2, none⟩) hbx).trans g2, (hB.cell (p := ⟨w.heap.size, 3, none⟩) hbx).trans g3, (hB.cell (p := ⟨w.heap.size, 4, none⟩) hbx).trans g4, (hB.cell (p := ⟨w.heap.size, 5, none⟩) hbx).trans g5, (hB.cell (p := ⟨w.heap.size, 6, none⟩) hbx).trans g6⟩
        have q1 : ∀ w, (binOp .add 9 (.string ⟨t.toArray⟩) (.string ⟨#[44, 32]⟩)).run Tryz.prog w = .ok (.string ⟨(t ++ [44, 32]).toArray⟩) w := fun w => cat9 t [44, 32] (by simp; omega) w
        have q3 : ∀ w, (binOp .add 9 (.string ⟨(t ++ [44, 32]).toArray⟩) (.string ⟨u.toArray⟩)).run Tryz.prog w = .ok (.string ⟨(t ++ [44, 32] ++ u).toArray⟩) w := fun w => cat9 _ u (by simp; omega) w
        have q5 : ∀ w, (binOp .add 9 (.string ⟨t.toArray⟩) (.string ⟨u.toArray⟩)).run Tryz.prog w = .ok (.string ⟨(t ++ u).toArray⟩) w := fun w => cat9 _ u (by omega) w
        have HB := Lib.hid hB
        have HS := Lib.hid hstep
        have hw1 : w.heap.size < wr.heap.size := Nat.lt_of_lt_of_le hbx hB.size
        clear hi hR hu hstep hB ht
        by_cases hi0 : i = 0
        · subst hi0
          rw [show ((0 : Nat) : Int) = 0 from rfl]
          simp only [Nat.zero_mul, Nat.add_zero] at x0 x1 x2 x3 x4 x5 x6
          have h1 : Below w1.heap.size w1 (wr.alloc (.cells #[.int .i64 k', .int .i64 l', .int .i64 s', .slice A3' m3 d3, .slice A4' m4 d4, .slice A5' m5 d5, .slice A6' m6 d6] 28)) := HB.out.trans (((Below.refl _ wr).alloc (Nat.le_refl _) _).mono HB.out.size)
          have hcl := HCL.out _ h1 (HBW.out.trans (h1.mono HBW.out.size)) _ _ _ rfl
          have HA1 := Lib.hid h1
          have HC0 := Lib.hid hcl.1
          have HC1 := Lib.hid hcl.2
          clear h1 hcl
          by_cases hm : m3 = 0
          · subst hm
            go_wp2_with (fail)
            refine (HC0.out (by simp)).mono ?_
            rintro e2 w2 ⟨rfl, hB2⟩
            have HB2 := Lib.hid (HA1.out.trans (hB2.mono HA1.out.size))
            clear hB2
            go_wp2_with (fail)
            go_roundg (n - (0 + 1))
            case measure => have := HI.out; omega
            case rel => exact ⟨0 + 1, by omega, by go_num, rfl, by rw [HS.out, if_pos trivial, List.append_nil, app_ba], HB2.out⟩
          · have hm1 : (0 : Int) < (m3 : Int) := by omega
            have HM := Lib.hid hm
            obtain ⟨z, hz⟩ : ∃ z, inBr u = z := ⟨_, rfl⟩
            have zl : z.length = u.length + 2 := by rw [← hz]; simp [inBr]
            obtain ⟨y, hy⟩ : ∃ y : Int, ((u.length : Int) + 1) = y := ⟨_, rfl⟩
            have hwr : wrap64 ((z.length : Int) - 1) = y := by
              have h := IntWalk.i64_in ((z.length : Int) - 1) (by omega)
              rw [IntKind.wrap_i64] at h
              rw [← hy]
              unfold wrap64
              omega
            have HEZ : Hid ((⟨z.toArray⟩ : ByteArray).extract 1 (u.length + 1) = ⟨u.toArray⟩) := Lib.hid (by rw [← hz]; exact ext_inBr u)
            rw [hz] at HC1
            clear hm hz
            go_wp2_with (fail)
            refine (HC1.out HM.out).mono ?_
            rintro e2 w2 ⟨rfl, hB2⟩
            have HB2 := Lib.hid (HA1.out.trans (hB2.mono HA1.out.size))
            clear hB2
            go_wp2_with (fail)
            go_roundg (n - (0 + 1))
            case measure => have := HI.out; omega
            case rel => exact ⟨0 + 1, by omega, by go_num, rfl, by rw [HEZ.out, HS.out, if_pos trivial, List.append_nil, app_ba], HB2.out⟩
        · have z0 : (0 : Int) < (i : Int) := by omega
          have h1 : Below w1.heap.size w1 (wr.alloc (.cells #[.int .i64 k', .int .i64 l', .int .i64 s', .slice A3' m3 d3, .slice A4' m4 d4, .slice A5' m5 d5, .slice A6' m6 d6] 28)) := HB.out.trans (((Below.refl _ wr).alloc (Nat.le_refl _) _).mono HB.out.size)
          have hcl := HCL.out _ h1 (HBW.out.trans (h1.mono HBW.out.size)) _ _ _ rfl
          have HA1 := Lib.hid h1
          have HC0 := Lib.hid hcl.1
          have HC1 := Lib.hid hcl.2
          clear h1 hcl
          by_cases hm : m3 = 0
          · subst hm
            go_wp2_with (fail)
            refine (HC0.out (by simp)).mono ?_
            rintro e2 w2 ⟨rfl, hB2⟩
            have HB2 := Lib.hid (HA1.out.trans (hB2.mono HA1.out.size))
            clear hB2
            go_wp2_with (fail)
            go_roundg (n - (i + 1))
            case measure => have := HI.out; omega
            case rel => exact ⟨i + 1, by omega, by go_num, rfl, by rw [HS.out, if_neg hi0, commaT, app_ba, app_ba], HB2.out⟩
          · have hm1 : (0 : Int) < (m3 : Int) := by omega
            have HM := Lib.hid hm
            obtain ⟨z, hz⟩ : ∃ z, inBr u = z := ⟨_, rfl⟩
            have zl : z.length = u.length + 2 := by rw [← hz]; simp [inBr]
            obtain ⟨y, hy⟩ : ∃ y : Int, ((u.length : Int) + 1) = y := ⟨_, rfl⟩
            have hwr : wrap64 ((z.length : Int) - 1) = y := by
              have h := IntWalk.i64_in ((z.length : Int) - 1) (by omega)
              rw [IntKind.wrap_i64] at h
              rw [← hy]
              unfold wrap64
              omega
            have HEZ : Hid ((⟨z.toArray⟩ : ByteArray).extract 1 (u.length + 1) = ⟨u.toArray⟩) := Lib.hid (by rw [← hz]; exact ext_inBr u)
            rw [hz] at HC1
            clear hm hz
            go_wp2_with (fail)
            refine (HC1.out HM.out).mono ?_
            rintro e2 w2 ⟨rfl, hB2⟩
            have HB2 := Lib.hid (HA1.out.trans (hB2.mono HA1.out.size))
            clear hB2
            go_wp2_with (fail)
            go_roundg (n - (i + 1))
            case measure => have := HI.out; omega
            case rel => exact ⟨i + 1, by omega, by go_num, rfl, by rw [HEZ.out, HS.out, if_neg hi0, commaT, app_ba, app_ba], HB2.out⟩
      · have ei : i = n := by omega
        subst ei
        have q1 : ∀ w, (binOp .add 9 (.string ⟨t.toArray⟩) (.string ⟨#[41]⟩)).run Tryz.prog w = .ok (.string ⟨(t ++ [41]).toArray⟩) w := fun w => cat9 t [41] (by simp; omega) w
        have E : Hid (T = t ++ [41]) := Lib.hid (by rw [← HTT.out, ← ht]; rfl)
        have HB := Lib.hid hB
        clear hi ht hB
        go_wp2_with (fail)
        go_ret2
        refine ⟨?_, HBW.out.trans (HB.out.mono HBW.out.size)⟩
        rw [E.out, ← app_ba]
        rfl
end Go.Proofs.YtokmamakmaojpaaGreatDoor

/- K8. -/
namespace Go.Proofs.YtokmamakmaojpaaGreatDoor
open Go.RowKit

/-- The parts between ends. -/
def ringsP (kk l : Int) (f : List Nat) (e : List Int) : List G := (List.range e.length).map fun i => .mk kk l 0 (segAt f 0 e i) [] [] []
theorem ringsP_length (kk l : Int) (f : List Nat) (e : List Int) : (ringsP kk l f e).length = e.length := by simp [ringsP]
theorem ringsP_at (kk l : Int) (f : List Nat) (e : List Int) (i : Nat) (hi : i < (ringsP kk l f e).length) : (ringsP kk l f e)[i] = .mk kk l 0 (segAt f 0 e i) [] [] [] := by simp [ringsP]
theorem segAt_le (f : List Nat) (s : Nat) (e : List Int) (i : Nat) : (segAt f s e i).length ≤ f.length := by
  unfold segAt seg
  rw [List.length_take, List.length_drop]
  omega
theorem inBr_length (t : List UInt8) : (inBr t).length = t.length + 2 := by simp [inBr]

theorem rings16_3 (l s : Int) (f : List Nat) (e : List Int) (es : List (List Int)) (c : Nat → Value) (w : World) (hg : GAt w c (.mk 3 l s f e es [])) (st : Nat) (d : Int) (top : Bool) (hs0 : 1 ≤ st) (hs1 : st ≤ 9) (h0 : -1 ≤ d) (h1 : d ≤ 20) (hf : f.length ≤ 2097152) (he : e.length ≤ 2097152) (hk : EOk st f.length 0 e)
    (hT : Tabs w) (hlen : (joinT (fun k => placesT st d (segAt f 0 e k)) e.length).length ≤ 140737488355328) :
    Calls Tryz.prog 16 #[.agg #[c 0, c 1, c 2, c 3, c 4, c 5, c 6], .int .i64 st, .int .i64 d, .bool top] w (BodyRet (if (top = true ∧ f.length = 0) ∨ e.length = 0 then emptyT else ringsT st d f 0 e) w) := by
  obtain ⟨A3, A4, A5, A6, c3, c4, c5, c6, e0, e1, e2, e3, e4, e5, e6, ho⟩ := hg.open_
  have hp : ∀ w', Below w.heap.size w w' → Calls Tryz.prog 47 #[.agg #[c 0, c 1, c 2, c 3, c 4, c 5, c 6]] w' (PartsRet (ringsP 8 l f e) w') := fun w' hb => by
    have hpc := fun (i : Nat) (hi : i < (ringsP 8 l f e).length) (w2 : World) (hb2 : Below w'.heap.size w' w2) => (show Calls Tryz.prog 72 #[.agg #[c 0, c 1, c 2, c 3, c 4, c 5, c 6], .int .i64 i] w2 (PartAny w'.heap.size (ringsP 8 l f e)[i] w2) from by
      have hi' : i < e.length := by rw [ringsP_length] at hi; exact hi
      obtain ⟨q1, q2, q3, _⟩ := hk i hi'
      have hg2 := hg.stays (Nat.le_refl _) (hb.trans (hb2.mono hb.size))
      rw [ringsP_at]
      have hprev : i ≠ 0 → e.getD (i - 1) 0 = (prevE 0 e i : Int) := fun h => by
        obtain ⟨r1, _, _, _⟩ := hk (i - 1) (by omega)
        unfold prevE
        rw [if_neg h]
        omega
      exact (part_3 l s f e es [] c w2 hg2 i hi' (prevE 0 e i) (e.getD i 0).toNat (fun h => by rw [h]; rfl) hprev (by omega) q2 q3 hf he).mono fun _ _ h => h.any _)
    rw [e0, e1, e2, e3, e4, e5, e6] at hpc ⊢
    exact parts47 3 l s (by omega) A3 A4 A5 A6 f.length e.length es.length _ c3 c4 c5 c6 w' (ringsP 8 l f e) (by rw [ringsP_length]; rfl) (by rw [ringsP_length]; exact he) hpc
  have hrd : ∀ i (hi : i < (ringsP 8 l f e).length), ∀ c w', GAt w' c (ringsP 8 l f e)[i] → Below w.heap.size w w' → Calls Tryz.prog 16 #[.agg #[c 0, c 1, c 2, c 3, c 4, c 5, c 6], .int .i64 st, .int .i64 d, .bool false] w' (BodyRet (placesT st d (segAt f 0 e i)) w') := fun i hi c w' hgi hb => by
    rw [ringsP_at] at hgi
    exact body16_line 8 l 0 (by omega) _ [] [] c w' hgi st d false hs0 hs1 h0 h1 (Nat.le_trans (segAt_le _ _ _ _) hf) (hT.below hb)
  have h := body16_3 l s A3 A4 A5 A6 f.length e.length es.length 0 c3 c4 c5 c6 w st d top (ringsP 8 l f e) (fun k => placesT st d (segAt f 0 e k)) (by rw [ringsP_length]; exact he) (by rw [e0, e1, e2, e3, e4, e5, e6] at hp; exact hp) hrd (by rw [ringsP_length]; exact hlen)
  rw [ringsP_length] at h
  rw [e0, e1, e2, e3, e4, e5, e6]
  exact h

theorem rings16_5 (l s : Int) (f : List Nat) (e : List Int) (es : List (List Int)) (c : Nat → Value) (w : World) (hg : GAt w c (.mk 5 l s f e es [])) (st : Nat) (d : Int) (top : Bool) (hs0 : 1 ≤ st) (hs1 : st ≤ 9) (h0 : -1 ≤ d) (h1 : d ≤ 20) (hf : f.length ≤ 2097152) (he : e.length ≤ 2097152) (hk : EOk st f.length 0 e)
    (hT : Tabs w) (hlen : (joinT (fun k => placesT st d (segAt f 0 e k)) e.length).length ≤ 140737488355328) :
    Calls Tryz.prog 16 #[.agg #[c 0, c 1, c 2, c 3, c 4, c 5, c 6], .int .i64 st, .int .i64 d, .bool top] w (BodyRet (if e.length = 0 then emptyT else ringsT st d f 0 e) w) := by
  obtain ⟨A3, A4, A5, A6, c3, c4, c5, c6, e0, e1, e2, e3, e4, e5, e6, ho⟩ := hg.open_
  have hp : ∀ w', Below w.heap.size w w' → Calls Tryz.prog 47 #[.agg #[c 0, c 1, c 2, c 3, c 4, c 5, c 6]] w' (PartsRet (ringsP 2 l f e) w') := fun w' hb => by
    have hpc := fun (i : Nat) (hi : i < (ringsP 2 l f e).length) (w2 : World) (hb2 : Below w'.heap.size w' w2) => (show Calls Tryz.prog 72 #[.agg #[c 0, c 1, c 2, c 3, c 4, c 5, c 6], .int .i64 i] w2 (PartAny w'.heap.size (ringsP 2 l f e)[i] w2) from by
      have hi' : i < e.length := by rw [ringsP_length] at hi; exact hi
      obtain ⟨q1, q2, q3, _⟩ := hk i hi'
      have hg2 := hg.stays (Nat.le_refl _) (hb.trans (hb2.mono hb.size))
      rw [ringsP_at]
      have hprev : i ≠ 0 → e.getD (i - 1) 0 = (prevE 0 e i : Int) := fun h => by
        obtain ⟨r1, _, _, _⟩ := hk (i - 1) (by omega)
        unfold prevE
        rw [if_neg h]
        omega
      exact (part_5 l s f e es [] c w2 hg2 i hi' (prevE 0 e i) (e.getD i 0).toNat (fun h => by rw [h]; rfl) hprev (by omega) q2 q3 hf he).mono fun _ _ h => h.any _)
    rw [e0, e1, e2, e3, e4, e5, e6] at hpc ⊢
    exact parts47 5 l s (by omega) A3 A4 A5 A6 f.length e.length es.length _ c3 c4 c5 c6 w' (ringsP 2 l f e) (by rw [ringsP_length]; rfl) (by rw [ringsP_length]; exact he) hpc
  have hrd : ∀ i (hi : i < (ringsP 2 l f e).length), ∀ c w', GAt w' c (ringsP 2 l f e)[i] → Below w.heap.size w w' → Calls Tryz.prog 16 #[.agg #[c 0, c 1, c 2, c 3, c 4, c 5, c 6], .int .i64 st, .int .i64 d, .bool false] w' (BodyRet (placesT st d (segAt f 0 e i)) w') := fun i hi c w' hgi hb => by
    rw [ringsP_at] at hgi
    exact body16_line 2 l 0 (by omega) _ [] [] c w' hgi st d false hs0 hs1 h0 h1 (Nat.le_trans (segAt_le _ _ _ _) hf) (hT.below hb)
  have h := body16_5 l s A3 A4 A5 A6 f.length e.length es.length 0 c3 c4 c5 c6 w st d top (ringsP 2 l f e) (fun k => placesT st d (segAt f 0 e k)) (by rw [ringsP_length]; exact he) (by rw [e0, e1, e2, e3, e4, e5, e6] at hp; exact hp) hrd (by rw [ringsP_length]; exact hlen)
  rw [ringsP_length] at h
  rw [e0, e1, e2, e3, e4, e5, e6]
  exact h
end Go.Proofs.YtokmamakmaojpaaGreatDoor

/- K9. -/
namespace Go.Proofs.YtokmamakmaojpaaGreatDoor
open Go.RowKit

theorem points16_4 (l s : Int) (f : List Nat) (e : List Int) (es : List (List Int)) (c : Nat → Value) (w : World) (hg : GAt w c (.mk 4 l s f e es [])) (st : Nat) (d : Int) (top : Bool) (hs0 : 1 ≤ st) (hs1 : st ≤ 9) (h0 : -1 ≤ d) (h1 : d ≤ 20) (hf : f.length ≤ 2097152) (he : e.length ≤ 2097152) (hk : EOk st f.length 0 e)
    (hst : ∀ i, i < e.length → (e.getD i 0).toNat - prevE 0 e i ≤ st) (hT : Tabs w) (hlen : (joinT (fun k => pointT d (segAt f 0 e k)) e.length).length ≤ 140737488355328) :
    Calls Tryz.prog 16 #[.agg #[c 0, c 1, c 2, c 3, c 4, c 5, c 6], .int .i64 st, .int .i64 d, .bool top] w (BodyRet (if e.length = 0 then emptyT else pointsT d f e) w) := by
  obtain ⟨A3, A4, A5, A6, c3, c4, c5, c6, e0, e1, e2, e3, e4, e5, e6, ho⟩ := hg.open_
  have hp : ∀ w', Below w.heap.size w w' → Calls Tryz.prog 47 #[.agg #[c 0, c 1, c 2, c 3, c 4, c 5, c 6]] w' (PartsRet (ringsP 1 l f e) w') := fun w' hb => by
    have hpc := fun (i : Nat) (hi : i < (ringsP 1 l f e).length) (w2 : World) (hb2 : Below w'.heap.size w' w2) => (show Calls Tryz.prog 72 #[.agg #[c 0, c 1, c 2, c 3, c 4, c 5, c 6], .int .i64 i] w2 (PartAny w'.heap.size (ringsP 1 l f e)[i] w2) from by
      have hi' : i < e.length := by rw [ringsP_length] at hi; exact hi
      obtain ⟨q1, q2, q3, _⟩ := hk i hi'
      have hg2 := hg.stays (Nat.le_refl _) (hb.trans (hb2.mono hb.size))
      rw [ringsP_at]
      have hprev : i ≠ 0 → e.getD (i - 1) 0 = (prevE 0 e i : Int) := fun h => by
        obtain ⟨r1, _, _, _⟩ := hk (i - 1) (by omega)
        unfold prevE
        rw [if_neg h]
        omega
      exact (part_4 l s f e es [] c w2 hg2 i hi' (prevE 0 e i) (e.getD i 0).toNat (fun h => by rw [h]; rfl) hprev (by omega) q2 q3 hf he).mono fun _ _ h => h.any _)
    rw [e0, e1, e2, e3, e4, e5, e6] at hpc ⊢
    exact parts47 4 l s (by omega) A3 A4 A5 A6 f.length e.length es.length _ c3 c4 c5 c6 w' (ringsP 1 l f e) (by rw [ringsP_length]; rfl) (by rw [ringsP_length]; exact he) hpc
  have hrd : ∀ i (hi : i < (ringsP 1 l f e).length), ∀ c w', GAt w' c (ringsP 1 l f e)[i] → Below w.heap.size w w' → RoundP st d (pointT d (segAt f 0 e i)) (.agg #[c 0, c 1, c 2, c 3, c 4, c 5, c 6]) w' := fun i hi c w' hgi hb => by
    have hi' : i < e.length := by rw [ringsP_length] at hi; exact hi
    rw [ringsP_at] at hgi
    obtain ⟨q1, q2, q3, _⟩ := hk i hi'
    have hsl : (segAt f 0 e i).length ≤ st := by
      unfold segAt
      rw [seg_length q2 q3]
      exact hst i hi'
    obtain ⟨B3, B4, B5, B6, d3, d4, d5, d6, f0, f1, f2, f3, f4, f5, f6, hoi⟩ := hgi.open_
    intro A m cc hcell
    have hc3 : c 3 = .slice A m cc := hcell
    rw [f3] at hc3
    injection hc3 with x1 x2 x3
    have hle := Nat.le_trans (segAt_le f 0 e i) hf
    refine ⟨fun hm => ?_, fun hm => ?_⟩
    · have h := body16_line 1 l 0 (by omega) _ [] [] c w' hgi st d false hs0 hs1 h0 h1 hle (hT.below hb)
      have ep : placesT st d (segAt f 0 e i) = pointT d (segAt f 0 e i) := by
        unfold placesT pointT
        rw [if_pos (by omega), if_pos (by omega)]
      rw [ep] at h
      exact h
    · have h := places48 st d h0 h1 hs0 hs1 _ hoi.rng.flat hle (.slice B3 (segAt f 0 e i).length d3) w' (hT.below hb) hoi.flat
      have ep : placesT st d (segAt f 0 e i) = inBr (pointT d (segAt f 0 e i)) := by
        unfold placesT pointT
        rw [if_neg (by omega), if_neg (by omega), numsU_one st d _ _ hsl]
      rw [ep, x1, x2, x3] at h
      exact h
  have h := body16_4 l s A3 A4 A5 A6 f.length e.length es.length 0 c3 c4 c5 c6 w st d top (ringsP 1 l f e) (fun k => pointT d (segAt f 0 e k)) (by rw [ringsP_length]; exact he) (by rw [e0, e1, e2, e3, e4, e5, e6] at hp; exact hp) hrd (by rw [ringsP_length]; exact hlen)
  rw [ringsP_length] at h
  rw [e0, e1, e2, e3, e4, e5, e6]
  exact h

theorem seg_seg (f : List Nat) (s a b z : Nat) (h1 : s ≤ a) (h2 : b ≤ z) : seg (seg f s z) (a - s) (b - s) = seg f a b := by
  unfold seg
  rw [List.drop_take, List.drop_drop, List.take_take]
  rw [show s + (a - s) = a by omega, show min (b - s - (a - s)) (z - s - (a - s)) = b - a by omega]
theorem shiftE_getD (s : Nat) (e : List Int) (i : Nat) (hi : i < e.length) : (shiftE s e).getD i 0 = e.getD i 0 - s := by
  rw [shiftE, List.getD_eq_getElem?_getD, List.getElem?_map, List.getD_eq_getElem?_getD, List.getElem?_eq_getElem hi]
  rfl
theorem prevE_shift (s : Nat) (e : List Int) (i : Nat) (hi : i ≤ e.length) : prevE 0 (shiftE s e) i = prevE s e i - s := by
  unfold prevE
  by_cases h : i = 0
  · rw [if_pos h, if_pos h]
    omega
  · rw [if_neg h, if_neg h, shiftE_getD s e _ (by omega)]
    omega
theorem endOf_mono {st L s : Nat} {e : List Int} (hk : EOk st L s e) : ∀ j i, i < j → j ≤ e.length → (e.getD i 0).toNat ≤ prevE s e j
  | 0, i, h, _ => absurd h (by omega)
  | j + 1, i, h, hj => by
    rw [prevE_succ]
    by_cases h2 : i = j
    · rw [h2]
      exact Nat.le_refl _
    · have := endOf_mono hk j i (by omega) (by omega)
      have := (hk j (by omega)).2.1
      omega
theorem segAt_shift {st L s : Nat} {f : List Nat} {e : List Int} (hk : EOk st L s e) (hs : s ≤ L) (i : Nat) (hi : i < e.length) : segAt (seg f s (endOf s e)) 0 (shiftE s e) i = segAt f s e i := by
  unfold segAt
  rw [prevE_shift s e i (by omega), shiftE_getD s e i hi, show (e.getD i 0 - (s : Int)).toNat = (e.getD i 0).toNat - s by omega]
  exact seg_seg f s _ _ _ (prevE_at hk hs i (by omega)).1 (endOf_mono hk e.length i hi (Nat.le_refl _))
theorem EOk.shift {st L s : Nat} {e : List Int} {n : Nat} (hk : EOk st L s e) (hs : s ≤ L) (hn : n = endOf s e - s) : EOk st n 0 (shiftE s e) := fun i hi => by
  rw [shiftE_length] at hi
  obtain ⟨q1, q2, q3, q4⟩ := hk i hi
  have h1 := prevE_at hk hs i (by omega)
  have h2 := endOf_mono hk e.length i hi (Nat.le_refl _)
  rw [shiftE_getD s e i hi, prevE_shift s e i (by omega)]
  unfold endOf at hn
  refine ⟨by omega, by omega, by omega, ?_⟩
  rw [show (e.getD i 0 - (s : Int)).toNat - (prevE s e i - s) = (e.getD i 0).toNat - prevE s e i by omega]
  exact q4
theorem ringsT_shift {st L s : Nat} {f : List Nat} {e : List Int} (hk : EOk st L s e) (hs : s ≤ L) (d : Int) : ringsT st d (seg f s (endOf s e)) 0 (shiftE s e) = ringsT st d f s e := by
  unfold ringsT
  rw [shiftE_length]
  exact congrArg inBr (joinT_congr _ fun i hi => by rw [segAt_shift hk hs i hi])
end Go.Proofs.YtokmamakmaojpaaGreatDoor

/- K10. -/
namespace Go.Proofs.YtokmamakmaojpaaGreatDoor
open Go.RowKit

def polyP (l : Int) (f : List Nat) (es : List (List Int)) (i : Nat) : G := .mk 3 l 0 (seg f (startOf es i) (endOf (startOf es i) (es.getD i []))) (shiftE (startOf es i) (es.getD i [])) [] []
def polysP (l : Int) (f : List Nat) (es : List (List Int)) : List G := (List.range es.length).map (polyP l f es)
theorem polysP_length (l : Int) (f : List Nat) (es : List (List Int)) : (polysP l f es).length = es.length := by simp [polysP]
theorem polysP_at (l : Int) (f : List Nat) (es : List (List Int)) (i : Nat) (hi : i < (polysP l f es).length) : (polysP l f es)[i] = polyP l f es i := by simp [polysP]
theorem polys16_6 (l s : Int) (f : List Nat) (e : List Int) (es : List (List Int)) (c : Nat → Value) (w : World) (hg : GAt w c (.mk 6 l s f e es [])) (st : Nat) (d : Int) (top : Bool) (hs0 : 1 ≤ st) (hs1 : st ≤ 9) (h0 : -1 ≤ d) (h1 : d ≤ 20) (hf : f.length ≤ 2097152) (he : es.length ≤ 2097152) (hei : ∀ j, j < es.length → (es.getD j []).length ≤ 2097152)
    (hk : ∀ i, i < es.length → startOf es i ≤ f.length ∧ EOk st f.length (startOf es i) (es.getD i [])) (hT : Tabs w) (hlen : (joinT (polyT st d f es) es.length).length ≤ 140737488355328) :
    Calls Tryz.prog 16 #[.agg #[c 0, c 1, c 2, c 3, c 4, c 5, c 6], .int .i64 st, .int .i64 d, .bool top] w (BodyRet (if es.length = 0 then emptyT else polysT st d f es) w) := by
  obtain ⟨A3, A4, A5, A6, c3, c4, c5, c6, e0, e1, e2, e3, e4, e5, e6, ho⟩ := hg.open_
  have hp : ∀ w', Below w.heap.size w w' → Calls Tryz.prog 47 #[.agg #[c 0, c 1, c 2, c 3, c 4, c 5, c 6]] w' (PartsRet (polysP l f es) w') := fun w' hb => by
    have hpc := fun (i : Nat) (hi : i < (polysP l f es).length) (w2 : World) (hb2 : Below w'.heap.size w' w2) => (show Calls Tryz.prog 72 #[.agg #[c 0, c 1, c 2, c 3, c 4, c 5, c 6], .int .i64 i] w2 (PartAny w'.heap.size (polysP l f es)[i] w2) from by
      have hi' : i < es.length := by rw [polysP_length] at hi; exact hi
      have hg2 := hg.stays (Nat.le_refl _) (hb.trans (hb2.mono hb.size))
      rw [polysP_at]
      exact (part_6 l s f e es [] c w2 hg2 i hi' st (hk i hi').1 (hk i hi').2 (fun j hj hn => ((hk j (by omega)).2 _ (by omega)).1) hf he hei).mono fun _ _ h => h.any _)
    rw [e0, e1, e2, e3, e4, e5, e6] at hpc ⊢
    exact parts47 6 l s (by omega) A3 A4 A5 A6 f.length e.length es.length _ c3 c4 c5 c6 w' (polysP l f es) (by rw [polysP_length]; rfl) (by rw [polysP_length]; exact he) hpc
  have hrd : ∀ i (hi : i < (polysP l f es).length), ∀ c w', GAt w' c (polysP l f es)[i] → Below w.heap.size w w' → Calls Tryz.prog 16 #[.agg #[c 0, c 1, c 2, c 3, c 4, c 5, c 6], .int .i64 st, .int .i64 d, .bool false] w' (BodyRet (polyT st d f es i) w') := fun i hi c w' hgi hb => by
    have hi' : i < es.length := by rw [polysP_length] at hi; exact hi
    rw [polysP_at, polyP] at hgi
    obtain ⟨q1, q2⟩ := hk i hi'
    have hend : startOf es i ≤ endOf (startOf es i) (es.getD i []) ∧ endOf (startOf es i) (es.getD i []) ≤ f.length := prevE_at q2 q1 (es.getD i []).length (Nat.le_refl _)
    have hsl : (seg f (startOf es i) (endOf (startOf es i) (es.getD i []))).length = endOf (startOf es i) (es.getD i []) - startOf es i := seg_length hend.1 hend.2
    have hEq : (if (false = true ∧ (seg f (startOf es i) (endOf (startOf es i) (es.getD i []))).length = 0) ∨ (shiftE (startOf es i) (es.getD i [])).length = 0 then emptyT else ringsT st d (seg f (startOf es i) (endOf (startOf es i) (es.getD i []))) 0 (shiftE (startOf es i) (es.getD i []))) = polyT st d f es i := by
      unfold polyT
      rw [shiftE_length]
      by_cases h : (es.getD i []).length = 0
      · rw [if_pos (Or.inr h), if_pos h]
      · rw [if_neg (by simpa using h), if_neg h, ringsT_shift q2 q1]
    have hjl : (joinT (fun k => placesT st d (segAt (seg f (startOf es i) (endOf (startOf es i) (es.getD i []))) 0 (shiftE (startOf es i) (es.getD i [])) k)) (shiftE (startOf es i) (es.getD i [])).length).length ≤ 140737488355328 := by
      by_cases h : (es.getD i []).length = 0
      · rw [shiftE_length, h]
        exact Nat.zero_le _
      · have h2 : (polyT st d f es i).length ≤ (joinT (polyT st d f es) es.length).length := by
          have h3 := joinT_length_le (f := polyT st d f es) (i := i + 1) (n := es.length) (by omega)
          have h4 : joinT (polyT st d f es) (i + 1) = joinT (polyT st d f es) i ++ (if i = 0 then [] else commaT) ++ polyT st d f es i := rfl
          rw [h4, List.length_append] at h3
          omega
        have h5 : polyT st d f es i = inBr (joinT (fun k => placesT st d (segAt (seg f (startOf es i) (endOf (startOf es i) (es.getD i []))) 0 (shiftE (startOf es i) (es.getD i [])) k)) (shiftE (startOf es i) (es.getD i [])).length) := by
          unfold polyT
          rw [if_neg h, ← ringsT_shift q2 q1]
          rfl
        rw [h5, inBr_length] at h2
        omega
    have h := rings16_3 l 0 _ _ [] c w' hgi st d false hs0 hs1 h0 h1 (by rw [hsl]; omega) (by rw [shiftE_length]; exact hei i hi') (q2.shift q1 hsl) (hT.below hb) hjl
    rw [hEq] at h
    exact h
  have h := body16_6 l s A3 A4 A5 A6 f.length e.length es.length 0 c3 c4 c5 c6 w st d top (polysP l f es) (polyT st d f es) (by rw [polysP_length]; exact he) (by rw [e0, e1, e2, e3, e4, e5, e6] at hp; exact hp) hrd (by rw [polysP_length]; exact hlen)
  rw [polysP_length] at h
  rw [e0, e1, e2, e3, e4, e5, e6]
  exact h
end Go.Proofs.YtokmamakmaojpaaGreatDoor

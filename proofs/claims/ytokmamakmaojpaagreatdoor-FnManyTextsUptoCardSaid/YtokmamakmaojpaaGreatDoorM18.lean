/-
  V5. The guards: good data.
  V6. The guards: good data, of all but collections.
  V7. The guards joined: fmGood.
-/
import Derived.Test.YtokmamakmaojpaaGreatDoorM17
import Derived.Deep.RegionWith
set_option linter.unusedVariables false
set_option linter.unusedSimpArgs false
/- V5. -/
namespace Go.Proofs.YtokmamakmaojpaaGreatDoor
open Go.RowKit
attribute [local go_sem] no_yield

/-- The ends of several parts. -/
def gss (st : Int) : Int → Bool → List (List Int) → Int × Bool
  | a, b, [] => (a, b)
  | a, b, e :: es => gss st (gends st false a e).1 (b && (gends st false a e).2) es
mutual
/-- Good data. -/
def goodB : G → Bool
  | .mk k l _ f e es kids =>
    if k = 7 then goodBs l kids && decide (f.length + e.length + es.length = 0)
    else if (f.length : Int) % strideF l ≠ 0 ∨ 0 < kids.length ∨ (0 < es.length ∧ k ≠ 6) then false
    else if k = 1 then decide (e.length = 0) && decide ((f.length : Int) ≤ strideF l)
    else if k = 2 ∨ k = 8 then decide (e.length = 0)
    else if k = 3 ∨ k = 4 ∨ k = 5 then (gends (strideF l) (k == 4) 0 e).2 && decide ((gends (strideF l) (k == 4) 0 e).1 = f.length)
    else if k = 6 then (gss (strideF l) 0 true es).2 && decide ((gss (strideF l) 0 true es).1 = f.length) && decide (e.length = 0)
    else false
def goodBs (l : Int) : List G → Bool
  | [] => true
  | g :: gs => (goodB g && (decide (l = 0) || decide (layT g = l))) && goodBs l gs
end
theorem goodBs_drop (l : Int) (kids : List G) (i : Nat) (h : i < kids.length) : goodBs l (kids.drop i) = ((goodB kids[i] && (decide (l = 0) || decide (layT kids[i] = l))) && goodBs l (kids.drop (i + 1))) := by
  rw [List.drop_eq_getElem_cons h]
  rfl
theorem goodB_coll {l s : Int} {f : List Nat} {e : List Int} {es : List (List Int)} {kids : List G} : goodB (.mk 7 l s f e es kids) = (goodBs l kids && decide (f.length + e.length + es.length = 0)) := by
  rw [goodB, if_pos rfl]
theorem strideF_rng {l : Int} (h0 : 1 ≤ l) (h1 : l ≤ 9) : 2 ≤ strideF l ∧ strideF l ≤ 9 := by
  unfold strideF
  split
  · omega
  · split
    · omega
    · split <;> omega

set_option maxRecDepth 100000 in
set_option maxHeartbeats 2000000 in
/-- A collection. -/
theorem good9_coll (l s : Int) (f : List Nat) (e : List Int) (es : List (List Int)) (kids : List G)
    (ih : ∀ i (hi : i < kids.length), layB 9 kids[i] = true → wgt kids[i] ≤ 2097152 → ∀ (c : Nat → Value) (w : World), GAt w c kids[i] → Calls Tryz.prog 9 #[.agg #[c 0, c 1, c 2, c 3, c 4, c 5, c 6]] w (Ret (.bool (goodB kids[i])) w))
    (hY : layB 9 (.mk 7 l s f e es kids) = true) (hW : wgt (.mk 7 l s f e es kids) ≤ 2097152) (c : Nat → Value) (w : World) (hg : GAt w c (.mk 7 l s f e es kids)) :
    Calls Tryz.prog 9 #[.agg #[c 0, c 1, c 2, c 3, c 4, c 5, c 6]] w (Ret (.bool (goodB (.mk 7 l s f e es kids))) w) := by
  obtain ⟨A3, A4, A5, A6, c3, c4, c5, c6, e0, e1, e2, e3, e4, e5, e6, ho⟩ := hg.open_
  rw [e0, e1, e2, e3, e4, e5, e6]
  obtain ⟨hl0, hl9, _⟩ := layB_own hY
  obtain ⟨kc, hk, hkids⟩ := ho.kids
  obtain ⟨hk0, hk1⟩ := hk.le
  rw [wgt] at hW
  have hWT : ∀ i, wgts (kids.take i) ≤ 2097152 := fun i => by have := wgts_take_le kids i; omega
  have HWT := Lib.hid hWT
  have hWQ := length_le_rowsW es
  obtain ⟨hf0, hf1⟩ := ho.flat.le
  obtain ⟨he0, he1⟩ := ho.ends.le
  obtain ⟨ev, hev, _⟩ := ho.endss
  obtain ⟨hs0, hs1⟩ := hev.le
  have HKID := Lib.hid hkids
  have HIH := Lib.hid ih
  have HY := Lib.hid (layB_kid hY)
  obtain ⟨n, hn⟩ : ∃ n, kids.length = n := ⟨_, rfl⟩
  obtain ⟨nf, hnf⟩ : ∃ nf, f.length = nf := ⟨_, rfl⟩
  obtain ⟨ne, hne⟩ : ∃ ne, e.length = ne := ⟨_, rfl⟩
  obtain ⟨q, hq⟩ : ∃ q, es.length = q := ⟨_, rfl⟩
  rw [hn] at hk0 hk
  rw [hnf] at hf0
  rw [hne] at he0
  rw [hq] at hs0
  rw [hn, hnf, hne, hq]
  have HN := Lib.hid hn
  have HNF := Lib.hid hnf
  have HNE := Lib.hid hne
  have HQ := Lib.hid hq
  have HK := Lib.hid hk
  have hbd : nf ≤ 2097152 ∧ ne ≤ 2097152 ∧ q ≤ 2097152 := by omega
  obtain ⟨hb1, hb2, hb3⟩ := hbd
  clear e0 e1 e2 e3 e4 e5 e6 hg ho ih hY hkids hk hn hnf hne hq hev hW hWT hWQ
  go_enter Tryz.func9, Tryz.ntmps9
  go_wp2_with (go_at_call 17; refine (stride17 l hl0 hl9 _).mono ?_; rintro e w' ⟨rfl, rfl⟩)
  go_loopg [22] n (fun gk v22 wr => ∃ i : Nat, i + gk = n ∧ v22 = .int .i64 i ∧ Below (w.heap.size + 1) (w.alloc (.cells #[Value.int .i64 7, Value.int .i64 l, Value.int .i64 s, Value.slice A3 nf c3, Value.slice A4 ne c4, Value.slice A5 q c5, Value.slice A6 n c6] 28)) wr ∧
    Hid (goodBs l kids = goodBs l (kids.drop i)))
  case atStart => exact ⟨0, by omega, rfl, Below.refl _ _, Lib.hid rfl⟩
  case round =>
    obtain ⟨i, hi, rfl, hB, hG⟩ := hrel
    have hB0 : Below w.heap.size w wr := ((Below.refl _ w).alloc (Nat.le_refl _) _).trans (hB.mono (by omega))
    have HSZ : Hid (w.heap.size + 1 ≤ wr.heap.size) := Lib.hid (by simpa using hB.size)
    by_cases hlt : i < n
    · have HI := Lib.hid hi
      obtain ⟨hr0, hr1⟩ := layT_rng (by omega) _ (HY.out i (by rw [HN.out]; exact hlt))
      have hR := fun (c : Nat → Value) (w' : World) (h : GAt w' c (kids[i]'(by rw [HN.out]; exact hlt))) => And.intro (HIH.out i (by rw [HN.out]; exact hlt) (HY.out i _) (by have h1 := HWT.out (i + 1); have h2 := wgts_take kids i (by rw [HN.out]; exact hlt); have h3 := wgts_take_le kids (i + 1); omega) c w' h) (layoutOf15 _ (HY.out i _) c w' h)
      obtain ⟨r, hr⟩ : ∃ r, layT (kids[i]'(by rw [HN.out]; exact hlt)) = r := ⟨_, rfl⟩
      simp only [hr] at hR hr0 hr1
      have HR := Lib.hid hr
      have hD := goodBs_drop l kids i (by rw [HN.out]; exact hlt)
      obtain ⟨bg, hbg⟩ : ∃ bg, goodB (kids[i]'(by rw [HN.out]; exact hlt)) = bg := ⟨_, rfl⟩
      simp only [hbg] at hR
      rw [hr, hbg] at hD
      have HD := Lib.hid hD
      obtain ⟨b, o, k', l', s', A3', n3, d3, A4', n4, d4, A5', n5, d5, A6', n6, d6, rfl, hb, h0, h1, h2, h3, h4, h5, h6, HC⟩ :=
        kid_at hB0 HK.out hlt (HKID.out i (by rw [HN.out]; exact hlt)) (R := fun v w' => Calls Tryz.prog 9 #[v] w' (Ret (.bool bg) w') ∧ Calls Tryz.prog 15 #[v] w' (Ret (.int .i64 r) w')) hR
      have HB := Lib.hid hB
      have HB0 := Lib.hid hB0
      clear hi hB hB0 hR hr hD hbg
      obtain ⟨f0, f1, f2, f3, f4, f5, f6⟩ := box_cells (w := w) (w1 := wr) (by simpa using HB.out)
      have HW0 : Hid (Below w.heap.size w (wr.alloc (.cells #[Value.int .i64 k', .int .i64 l', .int .i64 s', .slice A3' n3 d3, .slice A4' n4 d4, .slice A5' n5 d5, .slice A6' n6 d6] 28))) := Lib.hid (HB0.out.alloc HB0.out.size _)
      have HW1 : Hid (Below (w.heap.size + 1) (w.alloc (.cells #[Value.int .i64 7, Value.int .i64 l, Value.int .i64 s, Value.slice A3 nf c3, Value.slice A4 ne c4, Value.slice A5 q c5, Value.slice (some ⟨b, o, none⟩) n c6] 28)) (wr.alloc (.cells #[Value.int .i64 k', .int .i64 l', .int .i64 s', .slice A3' n3 d3, .slice A4' n4 d4, .slice A5' n5 d5, .slice A6' n6 d6] 28))) := Lib.hid (HB.out.alloc HSZ.out _)
      have HSX : Hid (w.heap.size + 1 ≤ (wr.alloc (.cells #[Value.int .i64 k', .int .i64 l', .int .i64 s', .slice A3' n3 d3, .slice A4' n4 d4, .slice A5' n5 d5, .slice A6' n6 d6] 28)).heap.size) := Lib.hid (by simp; have := HSZ.out; omega)
      have HF1 : Hid ((wr.alloc (.cells #[Value.int .i64 k', .int .i64 l', .int .i64 s', .slice A3' n3 d3, .slice A4' n4 d4, .slice A5' n5 d5, .slice A6' n6 d6] 28)).cell? ⟨w.heap.size, 1, none⟩ = some (.int .i64 l)) := Lib.hid (new_cell (by omega) HW1.out 1)
      have HKP : Hid (∀ w1, Below ((wr.alloc (.cells #[Value.int .i64 k', .int .i64 l', .int .i64 s', .slice A3' n3 d3, .slice A4' n4 d4, .slice A5' n5 d5, .slice A6' n6 d6] 28)).drewN 1).heap.size ((wr.alloc (.cells #[Value.int .i64 k', .int .i64 l', .int .i64 s', .slice A3' n3 d3, .slice A4' n4 d4, .slice A5' n5 d5, .slice A6' n6 d6] 28)).drewN 1) w1 → w1.cell? ⟨wr.heap.size, 0, none⟩ = some (.int .i64 k') ∧ w1.cell? ⟨wr.heap.size, 1, none⟩ = some (.int .i64 l') ∧ w1.cell? ⟨wr.heap.size, 2, none⟩ = some (.int .i64 s') ∧ w1.cell? ⟨wr.heap.size, 3, none⟩ = some (.slice A3' n3 d3) ∧ w1.cell? ⟨wr.heap.size, 4, none⟩ = some (.slice A4' n4 d4) ∧ w1.cell? ⟨wr.heap.size, 5, none⟩ = some (.slice A5' n5 d5) ∧ w1.cell? ⟨wr.heap.size, 6, none⟩ = some (.slice A6' n6 d6) ∧ w1.cell? ⟨w.heap.size, 1, none⟩ = some (.int .i64 l)) := Lib.hid fun w1 h => by
        obtain ⟨q0, q1, q2, q3, q4, q5, q6⟩ := old_cells (w := (wr.alloc (.cells #[Value.int .i64 k', .int .i64 l', .int .i64 s', .slice A3' n3 d3, .slice A4' n4 d4, .slice A5' n5 d5, .slice A6' n6 d6] 28)).drewN 1) (b := wr.heap.size) (heap_alloc_new wr _) (by simp) h
        exact ⟨q0, q1, q2, q3, q4, q5, q6, (h.cell (p := ⟨w.heap.size, 1, none⟩) (by have := HSZ.out; simp; omega)).trans HF1.out⟩
      have HKQ : Hid (∀ w1 w2, Below ((wr.alloc (.cells #[Value.int .i64 k', .int .i64 l', .int .i64 s', .slice A3' n3 d3, .slice A4' n4 d4, .slice A5' n5 d5, .slice A6' n6 d6] 28)).drewN 1).heap.size ((wr.alloc (.cells #[Value.int .i64 k', .int .i64 l', .int .i64 s', .slice A3' n3 d3, .slice A4' n4 d4, .slice A5' n5 d5, .slice A6' n6 d6] 28)).drewN 1) w1 → Below w1.heap.size w1 w2 → w2.cell? ⟨wr.heap.size, 0, none⟩ = some (.int .i64 k') ∧ w2.cell? ⟨w.heap.size, 1, none⟩ = some (.int .i64 l)) := Lib.hid fun w1 w2 h h' => by
        obtain ⟨q0, q1, q2, q3, q4, q5, q6, q7⟩ := HKP.out w1 h
        have hs := h.size
        exact ⟨(h'.cell (p := ⟨wr.heap.size, 0, none⟩) (by simp at hs; show wr.heap.size < _; omega)).trans q0, (h'.cell (p := ⟨w.heap.size, 1, none⟩) (by have := HSZ.out; simp at hs; show w.heap.size < _; omega)).trans q7⟩
      go_upto_region 6 with (fail)
      go_cut [22, 40] from 22 to 41 (fun s22 s40 wx => s22 = .int .i64 i ∧ ∃ bx : Bool, s40 = .bool bx ∧ Below (w.heap.size + 1) (w.alloc (.cells #[Value.int .i64 7, Value.int .i64 l, Value.int .i64 s, Value.slice A3 nf c3, Value.slice A4 ne c4, Value.slice A5 q c5, Value.slice (some ⟨b, o, none⟩) n c6] 28)) wx ∧ Hid (bx = !(bg && (decide (l = 0) || decide (r = l)))))
      case first =>
        cases bg with
        | false =>
          first | go_region_with ((go_at_call 9; refine (HC.out _ (below_drewN HW0.out 1)).1.mono ?_; rintro e w1 ⟨rfl, hB1⟩; have HB1 := Lib.hid hB1; obtain ⟨g0, g1, g2, g3, g4, g5, g6, g7⟩ := HKP.out w1 hB1; clear hB1)) | fail "no"
          all_goals
            go_wp2_with (fail)
            go_meet
            exact ⟨rfl, true, rfl, (below_drewN HW1.out 1).trans (HB1.out.mono HSX.out), Lib.hid rfl⟩
        | true =>
          by_cases hl : l = 0
          · subst hl
            first | go_region_with ((go_at_call 9; refine (HC.out _ (below_drewN HW0.out 1)).1.mono ?_; rintro e w1 ⟨rfl, hB1⟩; have HB1 := Lib.hid hB1; obtain ⟨g0, g1, g2, g3, g4, g5, g6, g7⟩ := HKP.out w1 hB1; clear hB1)) | fail "no"
            all_goals
              go_wp2_with (fail)
              go_meet
              exact ⟨rfl, false, rfl, (below_drewN HW1.out 1).trans (HB1.out.mono HSX.out), Lib.hid rfl⟩
          · have hl2 : (l == 0) = false := beq_false_of_ne hl
            have HL := Lib.hid hl
            by_cases hr : r = l
            · subst hr
              clear hl
              first | go_region_with (first | (go_at_call 9; refine (HC.out _ (below_drewN HW0.out 1)).1.mono ?_; rintro e w1 ⟨rfl, hB1⟩; have HB1 := Lib.hid hB1; obtain ⟨g0, g1, g2, g3, g4, g5, g6, g7⟩ := HKP.out w1 hB1; clear hB1) | (go_at_call 15; refine (HC.out _ ((below_drewN HW0.out 1).trans (HB1.out.mono HW0.out.size))).2.mono ?_; rintro e w2 ⟨rfl, hB2⟩; have HB2 := Lib.hid hB2; obtain ⟨p0, p7⟩ := HKQ.out w1 w2 HB1.out hB2; clear hB2)) | fail "no"
              all_goals
                go_wp2_with (fail)
                go_meet
                exact ⟨rfl, false, rfl, ((below_drewN HW1.out 1).trans (HB1.out.mono HSX.out)).trans (HB2.out.mono (Nat.le_trans HSX.out HB1.out.size)), Lib.hid (by simp)⟩
            · have hr2 : (r == l) = false := beq_false_of_ne hr
              have HR3 := Lib.hid hr
              clear hl hr
              first | go_region_with (first | (go_at_call 9; refine (HC.out _ (below_drewN HW0.out 1)).1.mono ?_; rintro e w1 ⟨rfl, hB1⟩; have HB1 := Lib.hid hB1; obtain ⟨g0, g1, g2, g3, g4, g5, g6, g7⟩ := HKP.out w1 hB1; clear hB1) | (go_at_call 15; refine (HC.out _ ((below_drewN HW0.out 1).trans (HB1.out.mono HW0.out.size))).2.mono ?_; rintro e w2 ⟨rfl, hB2⟩; have HB2 := Lib.hid hB2; obtain ⟨p0, p7⟩ := HKQ.out w1 w2 HB1.out hB2; clear hB2)) | fail "no"
              all_goals
                go_wp2_with (fail)
                go_meet
                exact ⟨rfl, _, rfl, ((below_drewN HW1.out 1).trans (HB1.out.mono HSX.out)).trans (HB2.out.mono (Nat.le_trans HSX.out HB1.out.size)), Lib.hid (by simp [HL.out, HR3.out])⟩
      case rest =>
        obtain ⟨rfl, bx, rfl, hW2, hbx⟩ := hcut
        have HW2 := Lib.hid hW2
        clear hW2
        cases bx with
        | true =>
          go_wp2_with (fail)
          go_ret
          refine ⟨?_, ((Below.refl _ w).alloc (Nat.le_refl _) _).trans (HW2.out.mono (by omega))⟩
          have h1 := hbx.out
          have h2 : goodBs l kids = false := by
            rw [hG.out, HD.out]
            cases hq : (bg && (decide (l = 0) || decide (r = l))) with
            | true => rw [hq] at h1; simp at h1
            | false => rfl
          rw [goodB_coll, h2]
          rfl
        | false =>
          go_wp2_with (fail)
          go_roundg (n - (i + 1))
          case measure => have := HI.out; omega
          case rel =>
            refine ⟨i + 1, by omega, by go_num, HW2.out, Lib.hid ?_⟩
            have h1 := hbx.out
            rw [hG.out, HD.out]
            cases hq : (bg && (decide (l = 0) || decide (r = l))) with
            | true => rfl
            | false => rw [hq] at h1; simp at h1
    · have ei : i = n := by omega
      subst ei
      have HLL : Hid (goodBs l kids = true) := Lib.hid (by rw [hG.out, ← HN.out, List.drop_length]; rfl)
      obtain ⟨f0, f1, f2, f3, f4, f5, f6⟩ := box_cells (w := w) (w1 := wr) (by simpa using hB)
      have HB0 := Lib.hid hB0
      clear hB hB0 hG hi
      have hgl : (0 ≤ l) = True := by simp [hl0]
      by_cases h1 : nf + ne + q = 0
      · obtain ⟨rfl, rfl, rfl⟩ : nf = 0 ∧ ne = 0 ∧ q = 0 := by omega
        clear h1
        go_wp2_with (fail)
        go_ret
        refine ⟨?_, HB0.out⟩
        rw [goodB_coll, HLL.out, HNF.out, HNE.out, HQ.out]
        rfl
      · have h1' : ((nf : Int) + ne + q == 0) = false := beq_false_of_ne (by omega)
        have H1 := Lib.hid h1
        clear h1
        go_wp2_with (fail)
        go_ret
        refine ⟨?_, HB0.out⟩
        rw [goodB_coll, HLL.out, HNF.out, HNE.out, HQ.out, decide_eq_false H1.out]
        rfl
end Go.Proofs.YtokmamakmaojpaaGreatDoor

/- V6. -/
namespace Go.Proofs.YtokmamakmaojpaaGreatDoor
open Go.RowKit

theorem gss_drop (st : Int) (a : Int) (b : Bool) (es : List (List Int)) (i : Nat) (h : i < es.length) : gss st a b (es.drop i) = gss st (gends st false a (es.getD i [])).1 (b && (gends st false a (es.getD i [])).2) (es.drop (i + 1)) := by
  rw [List.drop_eq_getElem_cons h, List.getD_eq_getElem?_getD, List.getElem?_eq_getElem h]
  rfl
/-- What Good says of all but collections, by kind. -/
def leafB (k S : Int) (nf ne : Nat) (e : List Int) (es : List (List Int)) : Bool :=
  if k = 1 then decide (ne = 0) && decide ((nf : Int) ≤ S)
  else if k = 2 ∨ k = 8 then decide (ne = 0)
  else if k = 3 ∨ k = 4 ∨ k = 5 then (gends S (k == 4) 0 e).2 && decide ((gends S (k == 4) 0 e).1 = nf)
  else if k = 6 then (gss S 0 true es).2 && decide ((gss S 0 true es).1 = nf) && decide (ne = 0)
  else false
theorem goodB_leaf {k l s : Int} {f : List Nat} {e : List Int} {es : List (List Int)} {kids : List G} (h : k ≠ 7) :
    goodB (.mk k l s f e es kids) = if (f.length : Int) % strideF l ≠ 0 ∨ 0 < kids.length ∨ (0 < es.length ∧ k ≠ 6) then false else leafB k (strideF l) f.length e.length e es := by
  rw [goodB, if_neg h]
  rfl

set_option maxRecDepth 100000 in
set_option maxHeartbeats 4000000 in
theorem good9_leaf (k l s : Int) (f : List Nat) (e : List Int) (es : List (List Int)) (kids : List G) (hk7 : k ≠ 7)
    (hY : layB 9 (.mk k l s f e es kids) = true) (hW : wgt (.mk k l s f e es kids) ≤ 2097152) (c : Nat → Value) (w : World) (hg : GAt w c (.mk k l s f e es kids)) :
    Calls Tryz.prog 9 #[.agg #[c 0, c 1, c 2, c 3, c 4, c 5, c 6]] w (Ret (.bool (goodB (.mk k l s f e es kids))) w) := by
  obtain ⟨A3, A4, A5, A6, c3, c4, c5, c6, e0, e1, e2, e3, e4, e5, e6, ho⟩ := hg.open_
  rw [e0, e1, e2, e3, e4, e5, e6]
  obtain ⟨hl0, hl9, hl1⟩ := layB_own hY
  obtain ⟨kc, hk, _⟩ := ho.kids
  obtain ⟨hk0, hk1⟩ := hk.le
  obtain ⟨hf0, hf1⟩ := ho.flat.le
  obtain ⟨he0, he1⟩ := ho.ends.le
  obtain ⟨ev, hev, hrows⟩ := ho.endss
  obtain ⟨hs0, hs1⟩ := hev.le
  rw [wgt] at hW
  have hWQ := length_le_rowsW es
  have hWK := length_le_wgts kids
  have hG := goodB_leaf (k := k) (l := l) (s := s) (f := f) (e := e) (es := es) (kids := kids) hk7
  obtain ⟨hS0, hS1⟩ := strideF_rng (hl1 hk7) hl9
  have hst := fun w => stride17 l hl0 hl9 w
  obtain ⟨S, hS⟩ : ∃ S, strideF l = S := ⟨_, rfl⟩
  simp only [hS] at hst hS0 hS1 hG
  obtain ⟨R, hR⟩ : ∃ R, goodB (.mk k l s f e es kids) = R := ⟨_, rfl⟩
  rw [hR] at hG ⊢
  have hends := ho.ends
  have hre := ho.rng.ends
  have hrs := ho.rng.endss
  obtain ⟨n, hn⟩ : ∃ n, kids.length = n := ⟨_, rfl⟩
  obtain ⟨nf, hnf⟩ : ∃ nf, f.length = nf := ⟨_, rfl⟩
  obtain ⟨ne, hne⟩ : ∃ ne, e.length = ne := ⟨_, rfl⟩
  obtain ⟨q, hq⟩ : ∃ q, es.length = q := ⟨_, rfl⟩
  rw [hn] at hk0 hk hG
  rw [hnf] at hf0 hG
  rw [hne] at he0 hG
  rw [hq] at hs0 hG hev hrows
  rw [hn, hnf, hne, hq]
  have hbd : nf ≤ 2097152 ∧ ne ≤ 2097152 ∧ q ≤ 2097152 ∧ n ≤ 2097152 := by omega
  obtain ⟨hb1, hb2, hb3, hb4⟩ := hbd
  have hen : RowAt w (.slice A4 ne c4) e.length 1 (intC e) := by rw [← hne]; exact hends
  have HEN := Lib.hid hen
  have HNE := Lib.hid hne
  have HRE := Lib.hid hre
  have HRS := Lib.hid hrs
  have HROW := Lib.hid hrows
  have HEV := Lib.hid hev
  have HQ := Lib.hid hq
  have HG := Lib.hid hG
  have HST := Lib.hid hst
  have HB1 : Hid (Below w.heap.size w (w.alloc (.cells #[Value.int .i64 k, Value.int .i64 l, Value.int .i64 s, Value.slice A3 nf c3, Value.slice A4 ne c4, Value.slice A5 q c5, Value.slice A6 n c6] 28))) := Lib.hid ((Below.refl _ w).alloc (Nat.le_refl _) _)
  have hk7' : (k == 7) = false := beq_false_of_ne hk7
  have hS00 : (S == 0) = false := beq_false_of_ne (by omega)
  clear e0 e1 e2 e3 e4 e5 e6 hg ho hY hk hn hnf hne hq hev hrows hW hWQ hWK hG hst hS hR hends hen hre hrs hk7 hl1
  obtain ⟨x, hx⟩ : ∃ x, ((nf : Int) % S != 0) = x := ⟨_, rfl⟩
  cases x with
  | true =>
    have HR : Hid (R = false) := Lib.hid (by rw [HG.out, if_pos (Or.inl (by simpa using hx))])
    clear HG
    go_enter Tryz.func9, Tryz.ntmps9
    go_wp2_with (go_at_call 17; refine (HST.out _).mono ?_; rintro e w' ⟨rfl, rfl⟩)
    go_ret
    exact ⟨by rw [HR.out]; rfl, HB1.out⟩
  | false =>
    have HX : Hid ((nf : Int) % S = 0) := Lib.hid (by simpa using hx)
    by_cases hn0 : 0 < n
    · have HR : Hid (R = false) := Lib.hid (by rw [HG.out, if_pos (Or.inr (Or.inl hn0))])
      clear HG
      go_enter Tryz.func9, Tryz.ntmps9
      go_wp2_with (go_at_call 17; refine (HST.out _).mono ?_; rintro e w' ⟨rfl, rfl⟩)
      go_ret
      exact ⟨by rw [HR.out]; rfl, HB1.out⟩
    · by_cases hq6 : 0 < q ∧ k ≠ 6
      · have HR : Hid (R = false) := Lib.hid (by rw [HG.out, if_pos (Or.inr (Or.inr hq6))])
        clear HG
        obtain ⟨hq0, hk6⟩ := hq6
        have hk6' : (k != 6) = true := by simpa using hk6
        have hk6'' : (k == 6) = false := beq_false_of_ne hk6
        clear hk6
        go_enter Tryz.func9, Tryz.ntmps9
        go_wp2_with (go_at_call 17; refine (HST.out _).mono ?_; rintro e w' ⟨rfl, rfl⟩)
        go_ret
        exact ⟨by rw [HR.out]; rfl, HB1.out⟩
      · have HR : Hid (R = leafB k S nf ne e es) := Lib.hid (by rw [HG.out, if_neg (by have := HX.out; omega)])
        have HQ6 := Lib.hid hq6
        clear HG hq6
        by_cases k1 : k = 1
        · subst k1
          obtain rfl : q = 0 := by have := HQ6.out; omega
          by_cases he : ne = 0
          · subst he
            by_cases hf : (nf : Int) ≤ S
            · have HF := Lib.hid hf
              go_enter Tryz.func9, Tryz.ntmps9
              go_wp2_with (go_at_call 17; refine (HST.out _).mono ?_; rintro e w' ⟨rfl, rfl⟩)
              go_ret
              exact ⟨by rw [HR.out]; simp [leafB, HF.out], HB1.out⟩
            · have HF := Lib.hid hf
              go_enter Tryz.func9, Tryz.ntmps9
              go_wp2_with (go_at_call 17; refine (HST.out _).mono ?_; rintro e w' ⟨rfl, rfl⟩)
              go_ret
              exact ⟨by rw [HR.out]; simp [leafB, HF.out], HB1.out⟩
          · have he' : ((ne : Int) == 0) = false := beq_false_of_ne (by omega)
            have HE := Lib.hid he
            clear he
            go_enter Tryz.func9, Tryz.ntmps9
            go_wp2_with (go_at_call 17; refine (HST.out _).mono ?_; rintro e w' ⟨rfl, rfl⟩)
            go_ret
            exact ⟨by rw [HR.out]; simp [leafB, HE.out], HB1.out⟩
        by_cases k2 : k = 2
        · subst k2
          obtain rfl : q = 0 := by have := HQ6.out; omega
          by_cases he : ne = 0
          · subst he
            go_enter Tryz.func9, Tryz.ntmps9
            go_wp2_with (go_at_call 17; refine (HST.out _).mono ?_; rintro e w' ⟨rfl, rfl⟩)
            go_ret
            exact ⟨by rw [HR.out]; simp [leafB], HB1.out⟩
          · have he' : ((ne : Int) == 0) = false := beq_false_of_ne (by omega)
            have HE := Lib.hid he
            clear he
            go_enter Tryz.func9, Tryz.ntmps9
            go_wp2_with (go_at_call 17; refine (HST.out _).mono ?_; rintro e w' ⟨rfl, rfl⟩)
            go_ret
            exact ⟨by rw [HR.out]; simp [leafB, HE.out], HB1.out⟩
        by_cases k8 : k = 8
        · subst k8
          obtain rfl : q = 0 := by have := HQ6.out; omega
          by_cases he : ne = 0
          · subst he
            go_enter Tryz.func9, Tryz.ntmps9
            go_wp2_with (go_at_call 17; refine (HST.out _).mono ?_; rintro e w' ⟨rfl, rfl⟩)
            go_ret
            exact ⟨by rw [HR.out]; simp [leafB], HB1.out⟩
          · have he' : ((ne : Int) == 0) = false := beq_false_of_ne (by omega)
            have HE := Lib.hid he
            clear he
            go_enter Tryz.func9, Tryz.ntmps9
            go_wp2_with (go_at_call 17; refine (HST.out _).mono ?_; rintro e w' ⟨rfl, rfl⟩)
            go_ret
            exact ⟨by rw [HR.out]; simp [leafB, HE.out], HB1.out⟩
        by_cases k3 : k = 3
        · subst k3
          obtain rfl : q = 0 := by have := HQ6.out; omega
          have hp := fun w' h => goodEnds20 e HRE.out 0 S false (by omega) (by omega) hS0 hS1 (.slice A4 ne c4) w' (HEN.out.below (Nat.le_refl _) h)
          have hR2 : R = ((gends S false 0 e).2 && decide ((gends S false 0 e).1 = nf)) := by rw [HR.out]; simp [leafB]
          obtain ⟨p1, hp1⟩ : ∃ p1, (gends S false 0 e).1 = p1 := ⟨_, rfl⟩
          obtain ⟨p2, hp2⟩ : ∃ p2, (gends S false 0 e).2 = p2 := ⟨_, rfl⟩
          simp only [hp1, hp2] at hp hR2
          have HP := Lib.hid hp
          have HR2 := Lib.hid hR2
          clear hp hR2 hp1 hp2 HR
          cases p2 with
          | false =>
            go_enter Tryz.func9, Tryz.ntmps9
            go_wp2_with (first | (go_at_call 17; refine (HST.out _).mono ?_; rintro e w' ⟨rfl, rfl⟩) | (go_at_call 20; refine (HP.out _ HB1.out).mono ?_; rintro e w' ⟨rfl, rfl⟩))
            go_ret
            exact ⟨by rw [HR2.out]; rfl, HB1.out⟩
          | true =>
            by_cases hpn : p1 = nf
            · subst hpn
              go_enter Tryz.func9, Tryz.ntmps9
              go_wp2_with (first | (go_at_call 17; refine (HST.out _).mono ?_; rintro e w' ⟨rfl, rfl⟩) | (go_at_call 20; refine (HP.out _ HB1.out).mono ?_; rintro e w' ⟨rfl, rfl⟩))
              go_ret
              exact ⟨by rw [HR2.out]; simp, HB1.out⟩
            · have hpn' : (p1 == (nf : Int)) = false := beq_false_of_ne hpn
              have HPN := Lib.hid hpn
              clear hpn
              go_enter Tryz.func9, Tryz.ntmps9
              go_wp2_with (first | (go_at_call 17; refine (HST.out _).mono ?_; rintro e w' ⟨rfl, rfl⟩) | (go_at_call 20; refine (HP.out _ HB1.out).mono ?_; rintro e w' ⟨rfl, rfl⟩))
              go_ret
              exact ⟨by rw [HR2.out]; simp [HPN.out], HB1.out⟩
        by_cases k4 : k = 4
        · subst k4
          obtain rfl : q = 0 := by have := HQ6.out; omega
          have hp := fun w' h => goodEnds20 e HRE.out 0 S true (by omega) (by omega) hS0 hS1 (.slice A4 ne c4) w' (HEN.out.below (Nat.le_refl _) h)
          have hR2 : R = ((gends S true 0 e).2 && decide ((gends S true 0 e).1 = nf)) := by rw [HR.out]; simp [leafB]
          obtain ⟨p1, hp1⟩ : ∃ p1, (gends S true 0 e).1 = p1 := ⟨_, rfl⟩
          obtain ⟨p2, hp2⟩ : ∃ p2, (gends S true 0 e).2 = p2 := ⟨_, rfl⟩
          simp only [hp1, hp2] at hp hR2
          have HP := Lib.hid hp
          have HR2 := Lib.hid hR2
          clear hp hR2 hp1 hp2 HR
          cases p2 with
          | false =>
            go_enter Tryz.func9, Tryz.ntmps9
            go_wp2_with (first | (go_at_call 17; refine (HST.out _).mono ?_; rintro e w' ⟨rfl, rfl⟩) | (go_at_call 20; refine (HP.out _ HB1.out).mono ?_; rintro e w' ⟨rfl, rfl⟩))
            go_ret
            exact ⟨by rw [HR2.out]; rfl, HB1.out⟩
          | true =>
            by_cases hpn : p1 = nf
            · subst hpn
              go_enter Tryz.func9, Tryz.ntmps9
              go_wp2_with (first | (go_at_call 17; refine (HST.out _).mono ?_; rintro e w' ⟨rfl, rfl⟩) | (go_at_call 20; refine (HP.out _ HB1.out).mono ?_; rintro e w' ⟨rfl, rfl⟩))
              go_ret
              exact ⟨by rw [HR2.out]; simp, HB1.out⟩
            · have hpn' : (p1 == (nf : Int)) = false := beq_false_of_ne hpn
              have HPN := Lib.hid hpn
              clear hpn
              go_enter Tryz.func9, Tryz.ntmps9
              go_wp2_with (first | (go_at_call 17; refine (HST.out _).mono ?_; rintro e w' ⟨rfl, rfl⟩) | (go_at_call 20; refine (HP.out _ HB1.out).mono ?_; rintro e w' ⟨rfl, rfl⟩))
              go_ret
              exact ⟨by rw [HR2.out]; simp [HPN.out], HB1.out⟩
        by_cases k5 : k = 5
        · subst k5
          obtain rfl : q = 0 := by have := HQ6.out; omega
          have hp := fun w' h => goodEnds20 e HRE.out 0 S false (by omega) (by omega) hS0 hS1 (.slice A4 ne c4) w' (HEN.out.below (Nat.le_refl _) h)
          have hR2 : R = ((gends S false 0 e).2 && decide ((gends S false 0 e).1 = nf)) := by rw [HR.out]; simp [leafB]
          obtain ⟨p1, hp1⟩ : ∃ p1, (gends S false 0 e).1 = p1 := ⟨_, rfl⟩
          obtain ⟨p2, hp2⟩ : ∃ p2, (gends S false 0 e).2 = p2 := ⟨_, rfl⟩
          simp only [hp1, hp2] at hp hR2
          have HP := Lib.hid hp
          have HR2 := Lib.hid hR2
          clear hp hR2 hp1 hp2 HR
          cases p2 with
          | false =>
            go_enter Tryz.func9, Tryz.ntmps9
            go_wp2_with (first | (go_at_call 17; refine (HST.out _).mono ?_; rintro e w' ⟨rfl, rfl⟩) | (go_at_call 20; refine (HP.out _ HB1.out).mono ?_; rintro e w' ⟨rfl, rfl⟩))
            go_ret
            exact ⟨by rw [HR2.out]; rfl, HB1.out⟩
          | true =>
            by_cases hpn : p1 = nf
            · subst hpn
              go_enter Tryz.func9, Tryz.ntmps9
              go_wp2_with (first | (go_at_call 17; refine (HST.out _).mono ?_; rintro e w' ⟨rfl, rfl⟩) | (go_at_call 20; refine (HP.out _ HB1.out).mono ?_; rintro e w' ⟨rfl, rfl⟩))
              go_ret
              exact ⟨by rw [HR2.out]; simp, HB1.out⟩
            · have hpn' : (p1 == (nf : Int)) = false := beq_false_of_ne hpn
              have HPN := Lib.hid hpn
              clear hpn
              go_enter Tryz.func9, Tryz.ntmps9
              go_wp2_with (first | (go_at_call 17; refine (HST.out _).mono ?_; rintro e w' ⟨rfl, rfl⟩) | (go_at_call 20; refine (HP.out _ HB1.out).mono ?_; rintro e w' ⟨rfl, rfl⟩))
              go_ret
              exact ⟨by rw [HR2.out]; simp [HPN.out], HB1.out⟩
        by_cases k6 : k = 6
        · subst k6
          have hR2 : R = ((gss S 0 true es).2 && decide ((gss S 0 true es).1 = nf) && decide (ne = 0)) := by rw [HR.out]; simp [leafB]
          obtain ⟨P, hP⟩ : ∃ P, gss S 0 true es = P := ⟨_, rfl⟩
          rw [hP] at hR2
          have HR2 := Lib.hid hR2
          have HP := Lib.hid hP
          clear hR2 hP HR k1 k2 k8 k3 k4 k5
          by_cases hq0 : 0 < q
          all_goals
            go_enter Tryz.func9, Tryz.ntmps9
            go_wp2_with (go_at_call 17; refine (HST.out _).mono ?_; rintro e w' ⟨rfl, rfl⟩)
            go_loopg [8, 9, 135] q (fun gk v8 v9 v135 wr => ∃ i : Nat, i + gk = q ∧ v135 = .int .i64 i ∧ wr = w.alloc (.cells #[Value.int .i64 6, Value.int .i64 l, Value.int .i64 s, Value.slice A3 nf c3, Value.slice A4 ne c4, Value.slice A5 q c5, Value.slice A6 n c6] 28) ∧
              ∃ a : Int, v8 = .int .i64 a ∧ 0 ≤ a ∧ a ≤ 9223372036854775807 ∧ ∃ b : Bool, v9 = .bool b ∧ Hid (P = gss S a b (es.drop i)))
            case atStart => exact ⟨0, by omega, rfl, rfl, 0, rfl, by omega, by omega, true, rfl, Lib.hid HP.out.symm⟩
            case round =>
              obtain ⟨i, hi, rfl, rfl, a, rfl, ha0, ha1, b, rfl, hG⟩ := hrel
              by_cases hlt : i < q
              · have HI := Lib.hid hi
                have hilt : i < es.length := by rw [HQ.out]; exact hlt
                have hD := gss_drop S a b es i hilt
                obtain ⟨bb, o, rfl, _, h0⟩ := (HEV.out.below (Nat.le_refl _) HB1.out).one hlt
                have hrow := HROW.out i hlt
                have hrng : ∀ e ∈ es.getD i [], RngI e := HRS.out _ (by
                  rw [List.getD_eq_getElem?_getD, List.getElem?_eq_getElem hilt]
                  exact List.getElem_mem _)
                obtain ⟨row, hrw⟩ : ∃ row, es.getD i [] = row := ⟨_, rfl⟩
                rw [hrw] at hD hrow hrng
                obtain ⟨hz0, hz1⟩ := gends_rng S false row a hrng ha0 ha1
                have hp := goodEnds20 row hrng a S false ha0 ha1 hS0 hS1 (ev i) _ (hrow.below (Nat.le_refl _) HB1.out)
                obtain ⟨Ae, ce, hee, _, _, _⟩ := hrow
                rw [hee] at h0 hp
                obtain ⟨p1, hp1⟩ : ∃ p1, (gends S false a row).1 = p1 := ⟨_, rfl⟩
                obtain ⟨p2, hp2⟩ : ∃ p2, (gends S false a row).2 = p2 := ⟨_, rfl⟩
                simp only [hp1, hp2] at hp hD hz0 hz1
                have HP2 := Lib.hid hp
                have HD := Lib.hid hD
                clear hp hD hp1 hp2 hee hrw hi
                cases b with
                | true =>
                  go_wp2_with (go_at_call 20; refine HP2.out.mono ?_; rintro e w' ⟨rfl, rfl⟩)
                  go_roundg (q - (i + 1))
                  case measure => have := HI.out; omega
                  case rel => exact ⟨i + 1, by omega, by go_num, rfl, p1, rfl, hz0, hz1, p2, rfl, Lib.hid (by rw [hG.out, HD.out]; simp)⟩
                | false =>
                  go_wp2_with (go_at_call 20; refine HP2.out.mono ?_; rintro e w' ⟨rfl, rfl⟩)
                  go_roundg (q - (i + 1))
                  case measure => have := HI.out; omega
                  case rel => exact ⟨i + 1, by omega, by go_num, rfl, p1, rfl, hz0, hz1, false, rfl, Lib.hid (by rw [hG.out, HD.out]; simp)⟩
              · have ei : i = q := by omega
                subst ei
                have HPP : Hid (P = (a, b)) := Lib.hid (by rw [hG.out, ← HQ.out, List.drop_length]; rfl)
                have HR3 : Hid (R = (b && decide (a = nf) && decide (ne = 0))) := Lib.hid (by rw [HR2.out, HPP.out])
                clear hG hi HPP HR2
                cases b with
                | false =>
                  go_wp2_with (fail)
                  go_ret
                  exact ⟨by rw [HR3.out]; rfl, HB1.out⟩
                | true =>
                  by_cases han : a = nf
                  · subst han
                    by_cases he : ne = 0
                    · subst he
                      go_wp2_with (fail)
                      go_ret
                      exact ⟨by rw [HR3.out]; simp, HB1.out⟩
                    · have he' : ((ne : Int) == 0) = false := beq_false_of_ne (by omega)
                      have HE := Lib.hid he
                      clear he
                      go_wp2_with (fail)
                      go_ret
                      exact ⟨by rw [HR3.out]; simp [HE.out], HB1.out⟩
                  · have han' : (a == (nf : Int)) = false := beq_false_of_ne han
                    have HE := Lib.hid han
                    clear han
                    go_wp2_with (fail)
                    go_ret
                    exact ⟨by rw [HR3.out]; simp [HE.out], HB1.out⟩
        · obtain rfl : q = 0 := by have := HQ6.out; omega
          have HR2 : Hid (R = false) := Lib.hid (by rw [HR.out]; simp [leafB, k1, k2, k8, k3, k4, k5, k6])
          have g1 : (k == 1) = false := beq_false_of_ne k1
          have g2 : (k == 2) = false := beq_false_of_ne k2
          have g3 : (k == 3) = false := beq_false_of_ne k3
          have g4 : (k == 4) = false := beq_false_of_ne k4
          have g5 : (k == 5) = false := beq_false_of_ne k5
          have g6 : (k == 6) = false := beq_false_of_ne k6
          have g8 : (k == 8) = false := beq_false_of_ne k8
          clear HR k1 k2 k8 k3 k4 k5 k6
          go_enter Tryz.func9, Tryz.ntmps9
          go_wp2_with (go_at_call 17; refine (HST.out _).mono ?_; rintro e w' ⟨rfl, rfl⟩)
          go_ret
          exact ⟨by rw [HR2.out]; rfl, HB1.out⟩
end Go.Proofs.YtokmamakmaojpaaGreatDoor

/- V7. -/
namespace Go.Proofs.YtokmamakmaojpaaGreatDoor
open Go.RowKit

theorem good9 (g : G) : layB 9 g = true → wgt g ≤ 2097152 → ∀ (c : Nat → Value) (w : World), GAt w c g → Calls Tryz.prog 9 #[.agg #[c 0, c 1, c 2, c 3, c 4, c 5, c 6]] w (Ret (.bool (goodB g)) w) := by
  induction g using G.ind with
  | h k l s f e es kids ih =>
    intro hY hW c w hg
    by_cases hk : k = 7
    · subst hk
      exact good9_coll l s f e es kids ih hY hW c w hg
    · exact good9_leaf k l s f e es kids hk hY hW c w hg
theorem layBs_at {m : Int} : ∀ {l : List G}, layBs m l = true → ∀ i (h : i < l.length), layB m l[i] = true
  | [], _, i, h => absurd h (by simp)
  | g :: gs, hg, 0, _ => by
    rw [layBs, Bool.and_eq_true] at hg
    exact hg.1
  | g :: gs, hg, i + 1, h => by
    rw [layBs, Bool.and_eq_true] at hg
    exact layBs_at hg.2 i (by simpa using h)

/-- What fmGood's yes means. -/
def GoodsRet (l : List G) (w : World) (e : Ending) (w' : World) : Prop :=
  ∃ b, e = .returned (.bool b) ∧ (b = true → wgts l ≤ 2000 ∧ layBs 9 l = true ∧ ∀ i (h : i < l.length), goodB l[i] = true) ∧ Below w.heap.size w w'

set_option maxHeartbeats 1000000 in
theorem fmGood4 (l : List G) (hW : wgts l ≤ 2097152) (v : Value) (w : World) (hl : AllAt w v l) : Calls Tryz.prog 4 #[v] w (GoodsRet l w) := by
  have hsm := fmSmall8 l hW v w hl
  obtain ⟨kc, hk, hkids⟩ := hl
  obtain ⟨A, cap, rfl, hl0, hl1, _⟩ := id hk
  unfold maxLen at hl1
  have HKID := Lib.hid hkids
  have HSM := Lib.hid hsm
  have HY := Lib.hid (fun i => wgts_take_le l i)
  obtain ⟨n, hn⟩ : ∃ n, l.length = n := ⟨_, rfl⟩
  rw [hn] at hl0 hk ⊢
  rw [hn] at HSM
  have HN := Lib.hid hn
  have HK := Lib.hid hk
  have HW := Lib.hid hW
  clear hkids hk hn hW hsm
  go_enter Tryz.func4, Tryz.ntmps4
  go_wp2_with (fail)
  refine HSM.out.mono ?_
  rintro e w1 ⟨b1, rfl, hb1, hB1⟩
  have HSS := Lib.hid hb1
  have HB1 := Lib.hid hB1
  clear hb1 hB1
  cases b1 with
  | false =>
    go_wp2_with (fail)
    go_ret
    exact ⟨false, rfl, (fun h => by simp at h), HB1.out⟩
  | true =>
    have HS2 := Lib.hid (HSS.out rfl)
    have HYY := Lib.hid (layBs_at HS2.out.2)
    clear HSS
    go_wp2_with (fail)
    go_loopg [10] n (fun gk v10 wr => ∃ i : Nat, i + gk = n ∧ v10 = .int .i64 i ∧ Below w.heap.size w wr ∧ Hid (∀ j (h : j < l.length), j < i → goodB l[j] = true))
    case atStart => exact ⟨0, by omega, rfl, HB1.out, Lib.hid (fun j h h' => absurd h' (by omega))⟩
    case round =>
      obtain ⟨i, hi, rfl, hB, hG⟩ := hrel
      by_cases hlt : i < n
      · have HI := Lib.hid hi
        have hil : i < l.length := by rw [HN.out]; exact hlt
        have hD := wgts_take l i hil
        have hwk : wgt l[i] ≤ 2097152 := by have := HY.out (i + 1); have := HW.out; omega
        have hR := fun (c : Nat → Value) (w' : World) (h : GAt w' c l[i]) => good9 l[i] (HYY.out i hil) hwk c w' h
        obtain ⟨r, hr⟩ : ∃ r, goodB l[i] = r := ⟨_, rfl⟩
        simp only [hr] at hR
        have HR := Lib.hid hr
        obtain ⟨b, o, k', l', s', A3', n3, d3, A4', n4, d4, A5', n5, d5, A6', n6, d6, rfl, hb, h0, h1, h2, h3, h4, h5, h6, HC⟩ :=
          kid_at hB HK.out hlt (HKID.out i hil) (R := fun v w' => Calls Tryz.prog 9 #[v] w' (Ret (.bool r) w')) hR
        have HB := Lib.hid hB
        clear hi hB hr hR hD hwk
        cases r with
        | false =>
          go_wp2_with (go_at_call 9; refine (HC.out _ (HB.out.alloc HB.out.size _)).mono ?_; rintro e w2 ⟨rfl, hB2⟩; have HB2 := Lib.hid hB2; clear hB2)
          go_ret
          exact ⟨false, rfl, (fun h => by simp at h), (HB.out.alloc HB.out.size _).trans (HB2.out.mono (by simp; have := HB.out.size; omega))⟩
        | true =>
          go_wp2_with (go_at_call 9; refine (HC.out _ (HB.out.alloc HB.out.size _)).mono ?_; rintro e w2 ⟨rfl, hB2⟩; have HB2 := Lib.hid hB2; clear hB2)
          go_roundg (n - (i + 1))
          case measure => have := HI.out; omega
          case rel =>
            refine ⟨i + 1, by omega, by go_num, (HB.out.alloc HB.out.size _).trans (HB2.out.mono (by simp; have := HB.out.size; omega)), Lib.hid fun j h hj => ?_⟩
            rcases Nat.lt_succ_iff_lt_or_eq.1 hj with h1 | h1
            · exact hG.out j h h1
            · subst h1
              exact HR.out
      · have ei : i = n := by omega
        subst ei
        have HLL : Hid (∀ i (h : i < l.length), goodB l[i] = true) := Lib.hid (fun j h => hG.out j h (by rw [← HN.out]; exact h))
        have HB := Lib.hid hB
        clear hB hG hi
        go_wp2_with (fail)
        go_ret
        exact ⟨true, rfl, fun _ => ⟨HS2.out.1, HS2.out.2, HLL.out⟩, HB.out⟩
end Go.Proofs.YtokmamakmaojpaaGreatDoor

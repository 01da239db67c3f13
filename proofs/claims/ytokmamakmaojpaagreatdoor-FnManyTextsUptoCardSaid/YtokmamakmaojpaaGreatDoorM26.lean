/-
  The encoder: write, collections.
-/
import Derived.Test.YtokmamakmaojpaaGreatDoorM21
set_option linter.unusedVariables false
set_option linter.unusedSimpArgs false
namespace Go.Proofs.YtokmamakmaojpaaGreatDoor
open Go.RowKit

theorem TAt.cl_inv {w : World} {v : Value} {l s : Int} {f : List Nat} {e : List Int} {es : List (List Int)} {kids : List G} (h : TAt w v (.mk 7 l s f e es kids)) :
    ∃ b gv, v = .iface 93 (.pointer (some ⟨b, 0, none⟩)) ∧ b < w.heap.size ∧ (∀ w', Below w.heap.size w w' → w'.cell? ⟨b, 0, none⟩ = some (.int .i64 l) ∧ w'.cell? ⟨b, 1, none⟩ = some gv) ∧
      ∃ kv : Nat → Value, RowAt w gv kids.length 1 (fun i _ => kv i) ∧ ∀ i (hi : i < kids.length), TAt w (kv i) kids[i] := by
  cases h with
  | pt _ _ _ _ _ _ _ b v3 hk' hb h3 => omega
  | rg _ _ _ _ _ _ _ b v3 v4 hk' hb h3 h4 => omega
  | cl _ _ _ _ _ _ b gv kv hb hg hk =>
    have hlt := (Array.getElem?_eq_some_iff.1 hb).1
    exact ⟨b, gv, rfl, hlt, fun w' hw => ⟨(hw.cell (p := ⟨b, 0, none⟩) hlt).trans (Lib.cell_of_heap hb 0), (hw.cell (p := ⟨b, 1, none⟩) hlt).trans (Lib.cell_of_heap hb 1)⟩, kv, hg, hk⟩

/-- A collection of a layout is written as its text, if its parts are. -/
def WriteC (L : Int) : Prop := ∀ (w0 : World) (eb b : Nat) (d : Int) (l s0 : Int) (f : List Nat) (e : List Int) (es : List (List Int)) (kids : List G) (v : Value) (s : List UInt8) (w : World), TAt w0 v (.mk 7 l s0 f e es kids) → layB 4 (.mk 7 l s0 f e es kids) = true →
  layT (.mk 7 l s0 f e es kids) = L → kids.length ≤ 2097152 →
  (∀ i (hi : i < kids.length) (v' : Value) (s' : List UInt8) (w' : World), TAt w0 v' kids[i] → Bld w0 b s' w' → s'.length + (wktT d kids[i]).length ≤ 140737488355328 → Calls Tryz.prog 22 #[.pointer (some ⟨eb, 0, none⟩), .pointer (some ⟨b, 0, none⟩), v'] w' (EWr w0 b (s' ++ wktT d kids[i]))) →
  Bld w0 b s w → s.length + (wktT d (.mk 7 l s0 f e es kids)).length ≤ 140737488355328 →
  Calls Tryz.prog 22 #[.pointer (some ⟨eb, 0, none⟩), .pointer (some ⟨b, 0, none⟩), v] w (EWr w0 b (s ++ wktT d (.mk 7 l s0 f e es kids)))

set_option maxRecDepth 100000 in
set_option maxHeartbeats 4000000 in
theorem writeC_0 : WriteC 0 := by
  intro w0 eb b d l s0 f e es kids v s w hv hY hLT hkl ih hB hl
  have hbt : wktT d (.mk 7 l s0 f e es kids) = [71, 69, 79, 77, 69, 84, 82, 89, 67, 79, 76, 76, 69, 67, 84, 73, 79, 78, 32] ++ bodyT d (.mk 7 l s0 f e es kids) := by
    rw [wktT_eq, hLT]
    rfl
  have hlay := hv.layC hY
  have hemp := hv.empC hY hLT
  rw [hbt] at hl ⊢
  rw [← List.append_assoc]
  have hbd : bodyT d (.mk 7 l s0 f e es kids) = (if kids.length = 0 then emptyT else inBr (joinT (fun i => (wktTs d kids).getD i []) kids.length)) := rfl
  rw [hbd] at hl ⊢
  clear hbt hbd
  simp only [List.length_append] at hl
  have H1 := Lib.hid (writeString50 w0 b s [71, 69, 79, 77, 69, 84, 82, 89, 67, 79, 76, 76, 69, 67, 84, 73, 79, 78, 32] w hB (by simp only [List.length_append, List.length_cons, List.length_nil] at hl ⊢; omega))
  obtain ⟨gb, gv, rfl, hlt, hcl, kv, hg, hk⟩ := hv.cl_inv
  obtain ⟨T, K, b', hveq, hm, hen, hcall⟩ := hlay
  injection hveq with e1 e2
  injection e2 with e2
  injection e2 with e2
  injection e2 with e2 _ _
  subst e1 e2
  rw [hLT] at hcall
  obtain ⟨b', hveq, hempc⟩ := hemp
  injection hveq with _ e2
  injection e2 with e2
  injection e2 with e2
  injection e2 with e2 _ _
  subst e2
  have HEMP := Lib.hid hempc
  have HLAY := Lib.hid (hcall w hB.below)
  obtain ⟨A, cap, rfl, hl0, hl1, _⟩ := id hg
  unfold maxLen at hl1
  have ta67 := fun w => ta_no (T := 93) (U := 67) (by decide) (by decide) (by decide) gb w
  have ta70 := fun w => ta_no (T := 93) (U := 70) (by decide) (by decide) (by decide) gb w
  have ta73 := fun w => ta_no (T := 93) (U := 73) (by decide) (by decide) (by decide) gb w
  have ta76 := fun w => ta_no (T := 93) (U := 76) (by decide) (by decide) (by decide) gb w
  have ta80 := fun w => ta_no (T := 93) (U := 80) (by decide) (by decide) (by decide) gb w
  have ta86 := fun w => ta_no (T := 93) (U := 86) (by decide) (by decide) (by decide) gb w
  have ta89 := fun w => ta_no (T := 93) (U := 89) (by decide) (by decide) (by decide) gb w
  have ta93 := fun w => ta_yes (T := 93) (by decide) gb w
  have hnum : ∀ w', Below w0.heap.size w0 w' → Calls Tryz.prog 65 #[.pointer (some ⟨gb, 0, none⟩)] w' (Same (.int .i64 kids.length) w') := fun w' h => num65 gb kids.length cap A w' (hcl w' h).2
  have hgeo : ∀ w', Below w0.heap.size w0 w' → Calls Tryz.prog 67 #[.pointer (some ⟨gb, 0, none⟩)] w' (Same (.slice A kids.length cap) w') := fun w' h => geoms67 gb _ w' (hcl w' h).2
  have HIH := Lib.hid ih
  have HKID := Lib.hid hk
  obtain ⟨q, hq⟩ : ∃ q, kids.length = q := ⟨_, rfl⟩
  rw [hq] at hl0 hl hg hkl ⊢
  simp only [hq] at hnum hgeo
  have HNUM := Lib.hid hnum
  have HGEO := Lib.hid hgeo
  have HQ := Lib.hid hq
  have HG := Lib.hid hg
  have hBw := Lib.hid hB.below
  clear hcall hcl hv hY hLT hk ih hg hq hnum hgeo hB hlt
  by_cases h0 : q = 0
  · subst h0
    rw [if_pos rfl] at hl ⊢
    have HEE := Lib.hid (fun w' (h : Bld w0 b (s ++ [71, 69, 79, 77, 69, 84, 82, 89, 67, 79, 76, 76, 69, 67, 84, 73, 79, 78, 32]) w') => writeEmpty52 w0 b _ (.pointer (some ⟨eb, 0, none⟩)) w' h (by have h5 : emptyT.length = 5 := rfl; simp only [List.length_append, List.length_cons, List.length_nil, h5] at hl ⊢; omega))
    clear hl
    go_enter Tryz.func22, Tryz.ntmps22
    go_wp2_with (fail)
    refine HLAY.out.mono ?_
    rintro e1 w1 ⟨rfl, rfl⟩
    go_wp2_with (fail)
    refine (HEMP.out _ hBw.out).mono ?_
    rintro e0 w00 ⟨rfl, rfl⟩
    go_wp2_with (fail)
    refine H1.out.mono ?_
    rintro e2 w2 ⟨m2, rfl, hB2⟩
    have HB2 := Lib.hid hB2
    clear hB2
    go_wp2_with (fail)
    refine (HNUM.out _ HB2.out.below).mono ?_
    rintro e3 w3 ⟨rfl, rfl⟩
    go_wp2_with (fail)
    refine (HEE.out _ HB2.out).mono ?_
    rintro e4 w4 ⟨rfl, hB4⟩
    have HB4 := Lib.hid hB4
    clear hB4
    go_wp2_with (fail)
    go_ret
    exact ⟨rfl, HB4.out⟩
  · rw [if_neg h0] at hl ⊢
    have hne : ((q : Int) == 0) = false := beq_false_of_ne (by omega)
    obtain ⟨g, hgg⟩ : ∃ g : Nat → List UInt8, (fun i => (wktTs d kids).getD i []) = g := ⟨_, rfl⟩
    rw [hgg] at hl ⊢
    have HGG := Lib.hid (fun i => (congrFun hgg i).symm)
    unfold inBr at hl ⊢
    simp only [List.length_append, List.length_singleton, List.length_cons, List.length_nil] at hl
    have HL := Lib.hid hl
    have HMO := Lib.hid (fun i (h : i ≤ q) => joinT_mono g q i h)
    have H40 := Lib.hid (fun w' (h : Bld w0 b (s ++ [71, 69, 79, 77, 69, 84, 82, 89, 67, 79, 76, 76, 69, 67, 84, 73, 79, 78, 32]) w') => writeRune66 w0 b _ 40 (by decide) w' h (by simp only [List.length_append, List.length_cons, List.length_nil]; omega))
    clear hl hgg h0
    go_enter Tryz.func22, Tryz.ntmps22
    go_wp2_with (fail)
    refine HLAY.out.mono ?_
    rintro e1 w1 ⟨rfl, rfl⟩
    go_wp2_with (fail)
    refine (HEMP.out _ hBw.out).mono ?_
    rintro e0 w00 ⟨rfl, rfl⟩
    go_wp2_with (fail)
    refine H1.out.mono ?_
    rintro e2 w2 ⟨m2, rfl, hB2⟩
    have HB2 := Lib.hid hB2
    clear hB2
    go_wp2_with (fail)
    refine (HNUM.out _ HB2.out.below).mono ?_
    rintro e3 w3 ⟨rfl, rfl⟩
    go_wp2_with (fail)
    refine (H40.out _ HB2.out).mono ?_
    rintro e4 w4 ⟨m4, rfl, hB4⟩
    have HB4 := Lib.hid hB4
    clear hB4
    go_wp2_with (fail)
    refine (HGEO.out _ HB4.out.below).mono ?_
    rintro e5 w5 ⟨rfl, rfl⟩
    go_wp2_with (fail)
    go_loopg [290] q (fun gk vc wr => ∃ i : Nat, i + gk = q ∧ vc = .int .i64 i ∧ Bld w0 b (s ++ [71, 69, 79, 77, 69, 84, 82, 89, 67, 79, 76, 76, 69, 67, 84, 73, 79, 78, 32] ++ [40] ++ joinT g i) wr)
    case atStart => exact ⟨0, by omega, by go_num, by simpa [joinT] using HB4.out⟩
    case round =>
      obtain ⟨i, hi, rfl, hB⟩ := hrel
      by_cases hlt : i < q
      · have HI := Lib.hid hi
        have hil : i < kids.length := by rw [HQ.out]; exact hlt
        obtain ⟨bb, o, rfl, _, h0⟩ := (HG.out.below (Nat.le_refl _) hB.below).one hlt
        obtain ⟨v', hv'⟩ : ∃ v', kv i = v' := ⟨_, rfl⟩
        rw [hv'] at h0
        have hT : g i = wktT d kids[i] := by rw [HGG.out, wktTs_getD d kids i hil]
        have hcc := fun s' w' h h' => HIH.out i hil v' s' w' (by rw [← hv']; exact HKID.out i hil) h h'
        rw [← hT] at hcc
        have hmo := HMO.out (i + 1) (by omega)
        have hjs : joinT g (i + 1) = joinT g i ++ (if i = 0 then [] else commaT) ++ g i := rfl
        rw [hjs] at hmo
        have HJS := Lib.hid hjs
        have hL2 := HL.out
        have HB0 := Lib.hid hB
        obtain ⟨X, hX⟩ : ∃ X, g i = X := ⟨_, rfl⟩
        simp only [hX] at hcc hmo
        rw [hX] at HJS
        simp only [List.length_append] at hmo
        clear hi hv' hT hjs hB hX
        by_cases hi0 : i = 0
        · subst hi0
          rw [if_pos rfl] at HJS hmo
          rw [Nat.add_zero] at h0
          rw [show ((0 : Nat) : Int) = 0 from rfl]
          have HP := Lib.hid (fun w' (h : Bld w0 b (s ++ [71, 69, 79, 77, 69, 84, 82, 89, 67, 79, 76, 76, 69, 67, 84, 73, 79, 78, 32] ++ [40] ++ joinT g 0) w') => hcc _ w' h (by simp only [List.length_append, List.length_singleton, List.length_cons, List.length_nil]; simp at hmo; omega))
          have HSQ : Hid (s ++ [71, 69, 79, 77, 69, 84, 82, 89, 67, 79, 76, 76, 69, 67, 84, 73, 79, 78, 32] ++ [40] ++ joinT g 0 ++ X = s ++ [71, 69, 79, 77, 69, 84, 82, 89, 67, 79, 76, 76, 69, 67, 84, 73, 79, 78, 32] ++ [40] ++ joinT g (0 + 1)) := Lib.hid (by rw [HJS.out]; simp)
          clear hcc hmo
          go_wp2_with (fail)
          refine (HP.out _ HB0.out).mono ?_
          rintro e6 w6 ⟨rfl, hB6⟩
          have HB6 := Lib.hid hB6
          clear hB6
          go_wp2_with (fail)
          go_roundg (q - (0 + 1))
          case measure => have := HI.out; omega
          case rel => exact ⟨0 + 1, by omega, by go_num, by rw [← HSQ.out]; exact HB6.out⟩
        · have hib : ((i : Int) == 0) = false := beq_false_of_ne (by omega)
          have hip : 0 < i := by omega
          rw [if_neg hi0] at HJS hmo
          have hcl : commaT.length = 2 := rfl
          rw [hcl] at hmo
          have HWS := Lib.hid (writeString50 w0 b _ [44, 32] _ HB0.out (by simp only [List.length_append, List.length_singleton, List.length_cons, List.length_nil]; omega))
          have HP := Lib.hid (fun w' (h : Bld w0 b (s ++ [71, 69, 79, 77, 69, 84, 82, 89, 67, 79, 76, 76, 69, 67, 84, 73, 79, 78, 32] ++ [40] ++ joinT g i ++ [44, 32]) w') => hcc _ w' h (by simp only [List.length_append, List.length_singleton, List.length_cons, List.length_nil]; omega))
          have HSQ : Hid (s ++ [71, 69, 79, 77, 69, 84, 82, 89, 67, 79, 76, 76, 69, 67, 84, 73, 79, 78, 32] ++ [40] ++ joinT g i ++ [44, 32] ++ X = s ++ [71, 69, 79, 77, 69, 84, 82, 89, 67, 79, 76, 76, 69, 67, 84, 73, 79, 78, 32] ++ [40] ++ joinT g (i + 1)) := Lib.hid (by rw [HJS.out]; simp [commaT])
          clear hcc hmo hi0 hcl
          go_wp2_with (fail)
          refine HWS.out.mono ?_
          rintro e6 w6 ⟨m6, rfl, hB6⟩
          have HB6 := Lib.hid hB6
          clear hB6
          go_wp2_with (fail)
          refine (HP.out _ HB6.out).mono ?_
          rintro e7 w7 ⟨rfl, hB7⟩
          have HB7 := Lib.hid hB7
          clear hB7
          go_wp2_with (fail)
          go_roundg (q - (i + 1))
          case measure => have := HI.out; omega
          case rel => exact ⟨i + 1, by omega, by go_num, by rw [← HSQ.out]; exact HB7.out⟩
      · have ei : i = q := by omega
        subst ei
        have H3 := Lib.hid (writeRune66 w0 b _ 41 (by decide) wr hB (by have := HL.out; simp only [List.length_append, List.length_singleton, List.length_cons, List.length_nil]; omega))
        clear hB hi
        go_wp2_with (fail)
        refine H3.out.mono ?_
        rintro e6 w6 ⟨m6, rfl, hB6⟩
        have HB6 := Lib.hid hB6
        clear hB6
        go_wp2_with (fail)
        go_ret
        exact ⟨rfl, by simpa using HB6.out⟩

set_option maxRecDepth 100000 in
set_option maxHeartbeats 4000000 in
theorem writeC_1 : WriteC 1 := by
  intro w0 eb b d l s0 f e es kids v s w hv hY hLT hkl ih hB hl
  have hbt : wktT d (.mk 7 l s0 f e es kids) = [71, 69, 79, 77, 69, 84, 82, 89, 67, 79, 76, 76, 69, 67, 84, 73, 79, 78, 32] ++ bodyT d (.mk 7 l s0 f e es kids) := by
    rw [wktT_eq, hLT]
    rfl
  have hlay := hv.layC hY

  rw [hbt] at hl ⊢
  rw [← List.append_assoc]
  have hbd : bodyT d (.mk 7 l s0 f e es kids) = (if kids.length = 0 then emptyT else inBr (joinT (fun i => (wktTs d kids).getD i []) kids.length)) := rfl
  rw [hbd] at hl ⊢
  clear hbt hbd
  simp only [List.length_append] at hl
  have H1 := Lib.hid (writeString50 w0 b s [71, 69, 79, 77, 69, 84, 82, 89, 67, 79, 76, 76, 69, 67, 84, 73, 79, 78, 32] w hB (by simp only [List.length_append, List.length_cons, List.length_nil] at hl ⊢; omega))
  obtain ⟨gb, gv, rfl, hlt, hcl, kv, hg, hk⟩ := hv.cl_inv
  obtain ⟨T, K, b', hveq, hm, hen, hcall⟩ := hlay
  injection hveq with e1 e2
  injection e2 with e2
  injection e2 with e2
  injection e2 with e2 _ _
  subst e1 e2
  rw [hLT] at hcall

  have HLAY := Lib.hid (hcall w hB.below)
  obtain ⟨A, cap, rfl, hl0, hl1, _⟩ := id hg
  unfold maxLen at hl1
  have ta67 := fun w => ta_no (T := 93) (U := 67) (by decide) (by decide) (by decide) gb w
  have ta70 := fun w => ta_no (T := 93) (U := 70) (by decide) (by decide) (by decide) gb w
  have ta73 := fun w => ta_no (T := 93) (U := 73) (by decide) (by decide) (by decide) gb w
  have ta76 := fun w => ta_no (T := 93) (U := 76) (by decide) (by decide) (by decide) gb w
  have ta80 := fun w => ta_no (T := 93) (U := 80) (by decide) (by decide) (by decide) gb w
  have ta86 := fun w => ta_no (T := 93) (U := 86) (by decide) (by decide) (by decide) gb w
  have ta89 := fun w => ta_no (T := 93) (U := 89) (by decide) (by decide) (by decide) gb w
  have ta93 := fun w => ta_yes (T := 93) (by decide) gb w
  have hnum : ∀ w', Below w0.heap.size w0 w' → Calls Tryz.prog 65 #[.pointer (some ⟨gb, 0, none⟩)] w' (Same (.int .i64 kids.length) w') := fun w' h => num65 gb kids.length cap A w' (hcl w' h).2
  have hgeo : ∀ w', Below w0.heap.size w0 w' → Calls Tryz.prog 67 #[.pointer (some ⟨gb, 0, none⟩)] w' (Same (.slice A kids.length cap) w') := fun w' h => geoms67 gb _ w' (hcl w' h).2
  have HIH := Lib.hid ih
  have HKID := Lib.hid hk
  obtain ⟨q, hq⟩ : ∃ q, kids.length = q := ⟨_, rfl⟩
  rw [hq] at hl0 hl hg hkl ⊢
  simp only [hq] at hnum hgeo
  have HNUM := Lib.hid hnum
  have HGEO := Lib.hid hgeo
  have HQ := Lib.hid hq
  have HG := Lib.hid hg
  have hBw := Lib.hid hB.below
  clear hcall hcl hv hY hLT hk ih hg hq hnum hgeo hB hlt
  by_cases h0 : q = 0
  · subst h0
    rw [if_pos rfl] at hl ⊢
    have HEE := Lib.hid (fun w' (h : Bld w0 b (s ++ [71, 69, 79, 77, 69, 84, 82, 89, 67, 79, 76, 76, 69, 67, 84, 73, 79, 78, 32]) w') => writeEmpty52 w0 b _ (.pointer (some ⟨eb, 0, none⟩)) w' h (by have h5 : emptyT.length = 5 := rfl; simp only [List.length_append, List.length_cons, List.length_nil, h5] at hl ⊢; omega))
    clear hl
    go_enter Tryz.func22, Tryz.ntmps22
    go_wp2_with (fail)
    refine HLAY.out.mono ?_
    rintro e1 w1 ⟨rfl, rfl⟩
    go_wp2_with (fail)
    refine H1.out.mono ?_
    rintro e2 w2 ⟨m2, rfl, hB2⟩
    have HB2 := Lib.hid hB2
    clear hB2
    go_wp2_with (fail)
    refine (HNUM.out _ HB2.out.below).mono ?_
    rintro e3 w3 ⟨rfl, rfl⟩
    go_wp2_with (fail)
    refine (HEE.out _ HB2.out).mono ?_
    rintro e4 w4 ⟨rfl, hB4⟩
    have HB4 := Lib.hid hB4
    clear hB4
    go_wp2_with (fail)
    go_ret
    exact ⟨rfl, HB4.out⟩
  · rw [if_neg h0] at hl ⊢
    have hne : ((q : Int) == 0) = false := beq_false_of_ne (by omega)
    obtain ⟨g, hgg⟩ : ∃ g : Nat → List UInt8, (fun i => (wktTs d kids).getD i []) = g := ⟨_, rfl⟩
    rw [hgg] at hl ⊢
    have HGG := Lib.hid (fun i => (congrFun hgg i).symm)
    unfold inBr at hl ⊢
    simp only [List.length_append, List.length_singleton, List.length_cons, List.length_nil] at hl
    have HL := Lib.hid hl
    have HMO := Lib.hid (fun i (h : i ≤ q) => joinT_mono g q i h)
    have H40 := Lib.hid (fun w' (h : Bld w0 b (s ++ [71, 69, 79, 77, 69, 84, 82, 89, 67, 79, 76, 76, 69, 67, 84, 73, 79, 78, 32]) w') => writeRune66 w0 b _ 40 (by decide) w' h (by simp only [List.length_append, List.length_cons, List.length_nil]; omega))
    clear hl hgg h0
    go_enter Tryz.func22, Tryz.ntmps22
    go_wp2_with (fail)
    refine HLAY.out.mono ?_
    rintro e1 w1 ⟨rfl, rfl⟩
    go_wp2_with (fail)
    refine H1.out.mono ?_
    rintro e2 w2 ⟨m2, rfl, hB2⟩
    have HB2 := Lib.hid hB2
    clear hB2
    go_wp2_with (fail)
    refine (HNUM.out _ HB2.out.below).mono ?_
    rintro e3 w3 ⟨rfl, rfl⟩
    go_wp2_with (fail)
    refine (H40.out _ HB2.out).mono ?_
    rintro e4 w4 ⟨m4, rfl, hB4⟩
    have HB4 := Lib.hid hB4
    clear hB4
    go_wp2_with (fail)
    refine (HGEO.out _ HB4.out.below).mono ?_
    rintro e5 w5 ⟨rfl, rfl⟩
    go_wp2_with (fail)
    go_loopg [290] q (fun gk vc wr => ∃ i : Nat, i + gk = q ∧ vc = .int .i64 i ∧ Bld w0 b (s ++ [71, 69, 79, 77, 69, 84, 82, 89, 67, 79, 76, 76, 69, 67, 84, 73, 79, 78, 32] ++ [40] ++ joinT g i) wr)
    case atStart => exact ⟨0, by omega, by go_num, by simpa [joinT] using HB4.out⟩
    case round =>
      obtain ⟨i, hi, rfl, hB⟩ := hrel
      by_cases hlt : i < q
      · have HI := Lib.hid hi
        have hil : i < kids.length := by rw [HQ.out]; exact hlt
        obtain ⟨bb, o, rfl, _, h0⟩ := (HG.out.below (Nat.le_refl _) hB.below).one hlt
        obtain ⟨v', hv'⟩ : ∃ v', kv i = v' := ⟨_, rfl⟩
        rw [hv'] at h0
        have hT : g i = wktT d kids[i] := by rw [HGG.out, wktTs_getD d kids i hil]
        have hcc := fun s' w' h h' => HIH.out i hil v' s' w' (by rw [← hv']; exact HKID.out i hil) h h'
        rw [← hT] at hcc
        have hmo := HMO.out (i + 1) (by omega)
        have hjs : joinT g (i + 1) = joinT g i ++ (if i = 0 then [] else commaT) ++ g i := rfl
        rw [hjs] at hmo
        have HJS := Lib.hid hjs
        have hL2 := HL.out
        have HB0 := Lib.hid hB
        obtain ⟨X, hX⟩ : ∃ X, g i = X := ⟨_, rfl⟩
        simp only [hX] at hcc hmo
        rw [hX] at HJS
        simp only [List.length_append] at hmo
        clear hi hv' hT hjs hB hX
        by_cases hi0 : i = 0
        · subst hi0
          rw [if_pos rfl] at HJS hmo
          rw [Nat.add_zero] at h0
          rw [show ((0 : Nat) : Int) = 0 from rfl]
          have HP := Lib.hid (fun w' (h : Bld w0 b (s ++ [71, 69, 79, 77, 69, 84, 82, 89, 67, 79, 76, 76, 69, 67, 84, 73, 79, 78, 32] ++ [40] ++ joinT g 0) w') => hcc _ w' h (by simp only [List.length_append, List.length_singleton, List.length_cons, List.length_nil]; simp at hmo; omega))
          have HSQ : Hid (s ++ [71, 69, 79, 77, 69, 84, 82, 89, 67, 79, 76, 76, 69, 67, 84, 73, 79, 78, 32] ++ [40] ++ joinT g 0 ++ X = s ++ [71, 69, 79, 77, 69, 84, 82, 89, 67, 79, 76, 76, 69, 67, 84, 73, 79, 78, 32] ++ [40] ++ joinT g (0 + 1)) := Lib.hid (by rw [HJS.out]; simp)
          clear hcc hmo
          go_wp2_with (fail)
          refine (HP.out _ HB0.out).mono ?_
          rintro e6 w6 ⟨rfl, hB6⟩
          have HB6 := Lib.hid hB6
          clear hB6
          go_wp2_with (fail)
          go_roundg (q - (0 + 1))
          case measure => have := HI.out; omega
          case rel => exact ⟨0 + 1, by omega, by go_num, by rw [← HSQ.out]; exact HB6.out⟩
        · have hib : ((i : Int) == 0) = false := beq_false_of_ne (by omega)
          have hip : 0 < i := by omega
          rw [if_neg hi0] at HJS hmo
          have hcl : commaT.length = 2 := rfl
          rw [hcl] at hmo
          have HWS := Lib.hid (writeString50 w0 b _ [44, 32] _ HB0.out (by simp only [List.length_append, List.length_singleton, List.length_cons, List.length_nil]; omega))
          have HP := Lib.hid (fun w' (h : Bld w0 b (s ++ [71, 69, 79, 77, 69, 84, 82, 89, 67, 79, 76, 76, 69, 67, 84, 73, 79, 78, 32] ++ [40] ++ joinT g i ++ [44, 32]) w') => hcc _ w' h (by simp only [List.length_append, List.length_singleton, List.length_cons, List.length_nil]; omega))
          have HSQ : Hid (s ++ [71, 69, 79, 77, 69, 84, 82, 89, 67, 79, 76, 76, 69, 67, 84, 73, 79, 78, 32] ++ [40] ++ joinT g i ++ [44, 32] ++ X = s ++ [71, 69, 79, 77, 69, 84, 82, 89, 67, 79, 76, 76, 69, 67, 84, 73, 79, 78, 32] ++ [40] ++ joinT g (i + 1)) := Lib.hid (by rw [HJS.out]; simp [commaT])
          clear hcc hmo hi0 hcl
          go_wp2_with (fail)
          refine HWS.out.mono ?_
          rintro e6 w6 ⟨m6, rfl, hB6⟩
          have HB6 := Lib.hid hB6
          clear hB6
          go_wp2_with (fail)
          refine (HP.out _ HB6.out).mono ?_
          rintro e7 w7 ⟨rfl, hB7⟩
          have HB7 := Lib.hid hB7
          clear hB7
          go_wp2_with (fail)
          go_roundg (q - (i + 1))
          case measure => have := HI.out; omega
          case rel => exact ⟨i + 1, by omega, by go_num, by rw [← HSQ.out]; exact HB7.out⟩
      · have ei : i = q := by omega
        subst ei
        have H3 := Lib.hid (writeRune66 w0 b _ 41 (by decide) wr hB (by have := HL.out; simp only [List.length_append, List.length_singleton, List.length_cons, List.length_nil]; omega))
        clear hB hi
        go_wp2_with (fail)
        refine H3.out.mono ?_
        rintro e6 w6 ⟨m6, rfl, hB6⟩
        have HB6 := Lib.hid hB6
        clear hB6
        go_wp2_with (fail)
        go_ret
        exact ⟨rfl, by simpa using HB6.out⟩

set_option maxRecDepth 100000 in
set_option maxHeartbeats 4000000 in
theorem writeC_2 : WriteC 2 := by
  intro w0 eb b d l s0 f e es kids v s w hv hY hLT hkl ih hB hl
  have hbt : wktT d (.mk 7 l s0 f e es kids) = [71, 69, 79, 77, 69, 84, 82, 89, 67, 79, 76, 76, 69, 67, 84, 73, 79, 78, 32, 90, 32] ++ bodyT d (.mk 7 l s0 f e es kids) := by
    rw [wktT_eq, hLT]
    rfl
  have hlay := hv.layC hY

  rw [hbt] at hl ⊢
  rw [← List.append_assoc]
  have hbd : bodyT d (.mk 7 l s0 f e es kids) = (if kids.length = 0 then emptyT else inBr (joinT (fun i => (wktTs d kids).getD i []) kids.length)) := rfl
  rw [hbd] at hl ⊢
  clear hbt hbd
  simp only [List.length_append] at hl
  have H1 := Lib.hid (header2 w0 b s [71, 69, 79, 77, 69, 84, 82, 89, 67, 79, 76, 76, 69, 67, 84, 73, 79, 78, 32] [90, 32] w hB (by simp only [List.length_append, List.length_cons, List.length_nil] at hl ⊢; omega))
  obtain ⟨gb, gv, rfl, hlt, hcl, kv, hg, hk⟩ := hv.cl_inv
  obtain ⟨T, K, b', hveq, hm, hen, hcall⟩ := hlay
  injection hveq with e1 e2
  injection e2 with e2
  injection e2 with e2
  injection e2 with e2 _ _
  subst e1 e2
  rw [hLT] at hcall

  have HLAY := Lib.hid (hcall w hB.below)
  obtain ⟨A, cap, rfl, hl0, hl1, _⟩ := id hg
  unfold maxLen at hl1
  have ta67 := fun w => ta_no (T := 93) (U := 67) (by decide) (by decide) (by decide) gb w
  have ta70 := fun w => ta_no (T := 93) (U := 70) (by decide) (by decide) (by decide) gb w
  have ta73 := fun w => ta_no (T := 93) (U := 73) (by decide) (by decide) (by decide) gb w
  have ta76 := fun w => ta_no (T := 93) (U := 76) (by decide) (by decide) (by decide) gb w
  have ta80 := fun w => ta_no (T := 93) (U := 80) (by decide) (by decide) (by decide) gb w
  have ta86 := fun w => ta_no (T := 93) (U := 86) (by decide) (by decide) (by decide) gb w
  have ta89 := fun w => ta_no (T := 93) (U := 89) (by decide) (by decide) (by decide) gb w
  have ta93 := fun w => ta_yes (T := 93) (by decide) gb w
  have hnum : ∀ w', Below w0.heap.size w0 w' → Calls Tryz.prog 65 #[.pointer (some ⟨gb, 0, none⟩)] w' (Same (.int .i64 kids.length) w') := fun w' h => num65 gb kids.length cap A w' (hcl w' h).2
  have hgeo : ∀ w', Below w0.heap.size w0 w' → Calls Tryz.prog 67 #[.pointer (some ⟨gb, 0, none⟩)] w' (Same (.slice A kids.length cap) w') := fun w' h => geoms67 gb _ w' (hcl w' h).2
  have HIH := Lib.hid ih
  have HKID := Lib.hid hk
  obtain ⟨q, hq⟩ : ∃ q, kids.length = q := ⟨_, rfl⟩
  rw [hq] at hl0 hl hg hkl ⊢
  simp only [hq] at hnum hgeo
  have HNUM := Lib.hid hnum
  have HGEO := Lib.hid hgeo
  have HQ := Lib.hid hq
  have HG := Lib.hid hg
  have hBw := Lib.hid hB.below
  clear hcall hcl hv hY hLT hk ih hg hq hnum hgeo hB hlt
  by_cases h0 : q = 0
  · subst h0
    rw [if_pos rfl] at hl ⊢
    have HEE := Lib.hid (fun w' (h : Bld w0 b (s ++ [71, 69, 79, 77, 69, 84, 82, 89, 67, 79, 76, 76, 69, 67, 84, 73, 79, 78, 32, 90, 32]) w') => writeEmpty52 w0 b _ (.pointer (some ⟨eb, 0, none⟩)) w' h (by have h5 : emptyT.length = 5 := rfl; simp only [List.length_append, List.length_cons, List.length_nil, h5] at hl ⊢; omega))
    clear hl
    go_enter Tryz.func22, Tryz.ntmps22
    go_wp2_with (fail)
    refine HLAY.out.mono ?_
    rintro e1 w1 ⟨rfl, rfl⟩
    go_wp2_with (fail)
    refine H1.out.mono ?_
    rintro e2 w2 ⟨m2, rfl, hB2⟩
    have HB2 := Lib.hid hB2
    clear hB2
    go_wp2_with (fail)
    refine (HNUM.out _ HB2.out.below).mono ?_
    rintro e3 w3 ⟨rfl, rfl⟩
    go_wp2_with (fail)
    refine (HEE.out _ HB2.out).mono ?_
    rintro e4 w4 ⟨rfl, hB4⟩
    have HB4 := Lib.hid hB4
    clear hB4
    go_wp2_with (fail)
    go_ret
    exact ⟨rfl, HB4.out⟩
  · rw [if_neg h0] at hl ⊢
    have hne : ((q : Int) == 0) = false := beq_false_of_ne (by omega)
    obtain ⟨g, hgg⟩ : ∃ g : Nat → List UInt8, (fun i => (wktTs d kids).getD i []) = g := ⟨_, rfl⟩
    rw [hgg] at hl ⊢
    have HGG := Lib.hid (fun i => (congrFun hgg i).symm)
    unfold inBr at hl ⊢
    simp only [List.length_append, List.length_singleton, List.length_cons, List.length_nil] at hl
    have HL := Lib.hid hl
    have HMO := Lib.hid (fun i (h : i ≤ q) => joinT_mono g q i h)
    have H40 := Lib.hid (fun w' (h : Bld w0 b (s ++ [71, 69, 79, 77, 69, 84, 82, 89, 67, 79, 76, 76, 69, 67, 84, 73, 79, 78, 32, 90, 32]) w') => writeRune66 w0 b _ 40 (by decide) w' h (by simp only [List.length_append, List.length_cons, List.length_nil]; omega))
    clear hl hgg h0
    go_enter Tryz.func22, Tryz.ntmps22
    go_wp2_with (fail)
    refine HLAY.out.mono ?_
    rintro e1 w1 ⟨rfl, rfl⟩
    go_wp2_with (fail)
    refine H1.out.mono ?_
    rintro e2 w2 ⟨m2, rfl, hB2⟩
    have HB2 := Lib.hid hB2
    clear hB2
    go_wp2_with (fail)
    refine (HNUM.out _ HB2.out.below).mono ?_
    rintro e3 w3 ⟨rfl, rfl⟩
    go_wp2_with (fail)
    refine (H40.out _ HB2.out).mono ?_
    rintro e4 w4 ⟨m4, rfl, hB4⟩
    have HB4 := Lib.hid hB4
    clear hB4
    go_wp2_with (fail)
    refine (HGEO.out _ HB4.out.below).mono ?_
    rintro e5 w5 ⟨rfl, rfl⟩
    go_wp2_with (fail)
    go_loopg [290] q (fun gk vc wr => ∃ i : Nat, i + gk = q ∧ vc = .int .i64 i ∧ Bld w0 b (s ++ [71, 69, 79, 77, 69, 84, 82, 89, 67, 79, 76, 76, 69, 67, 84, 73, 79, 78, 32, 90, 32] ++ [40] ++ joinT g i) wr)
    case atStart => exact ⟨0, by omega, by go_num, by simpa [joinT] using HB4.out⟩
    case round =>
      obtain ⟨i, hi, rfl, hB⟩ := hrel
      by_cases hlt : i < q
      · have HI := Lib.hid hi
        have hil : i < kids.length := by rw [HQ.out]; exact hlt
        obtain ⟨bb, o, rfl, _, h0⟩ := (HG.out.below (Nat.le_refl _) hB.below).one hlt
        obtain ⟨v', hv'⟩ : ∃ v', kv i = v' := ⟨_, rfl⟩
        rw [hv'] at h0
        have hT : g i = wktT d kids[i] := by rw [HGG.out, wktTs_getD d kids i hil]
        have hcc := fun s' w' h h' => HIH.out i hil v' s' w' (by rw [← hv']; exact HKID.out i hil) h h'
        rw [← hT] at hcc
        have hmo := HMO.out (i + 1) (by omega)
        have hjs : joinT g (i + 1) = joinT g i ++ (if i = 0 then [] else commaT) ++ g i := rfl
        rw [hjs] at hmo
        have HJS := Lib.hid hjs
        have hL2 := HL.out
        have HB0 := Lib.hid hB
        obtain ⟨X, hX⟩ : ∃ X, g i = X := ⟨_, rfl⟩
        simp only [hX] at hcc hmo
        rw [hX] at HJS
        simp only [List.length_append] at hmo
        clear hi hv' hT hjs hB hX
        by_cases hi0 : i = 0
        · subst hi0
          rw [if_pos rfl] at HJS hmo
          rw [Nat.add_zero] at h0
          rw [show ((0 : Nat) : Int) = 0 from rfl]
          have HP := Lib.hid (fun w' (h : Bld w0 b (s ++ [71, 69, 79, 77, 69, 84, 82, 89, 67, 79, 76, 76, 69, 67, 84, 73, 79, 78, 32, 90, 32] ++ [40] ++ joinT g 0) w') => hcc _ w' h (by simp only [List.length_append, List.length_singleton, List.length_cons, List.length_nil]; simp at hmo; omega))
          have HSQ : Hid (s ++ [71, 69, 79, 77, 69, 84, 82, 89, 67, 79, 76, 76, 69, 67, 84, 73, 79, 78, 32, 90, 32] ++ [40] ++ joinT g 0 ++ X = s ++ [71, 69, 79, 77, 69, 84, 82, 89, 67, 79, 76, 76, 69, 67, 84, 73, 79, 78, 32, 90, 32] ++ [40] ++ joinT g (0 + 1)) := Lib.hid (by rw [HJS.out]; simp)
          clear hcc hmo
          go_wp2_with (fail)
          refine (HP.out _ HB0.out).mono ?_
          rintro e6 w6 ⟨rfl, hB6⟩
          have HB6 := Lib.hid hB6
          clear hB6
          go_wp2_with (fail)
          go_roundg (q - (0 + 1))
          case measure => have := HI.out; omega
          case rel => exact ⟨0 + 1, by omega, by go_num, by rw [← HSQ.out]; exact HB6.out⟩
        · have hib : ((i : Int) == 0) = false := beq_false_of_ne (by omega)
          have hip : 0 < i := by omega
          rw [if_neg hi0] at HJS hmo
          have hcl : commaT.length = 2 := rfl
          rw [hcl] at hmo
          have HWS := Lib.hid (writeString50 w0 b _ [44, 32] _ HB0.out (by simp only [List.length_append, List.length_singleton, List.length_cons, List.length_nil]; omega))
          have HP := Lib.hid (fun w' (h : Bld w0 b (s ++ [71, 69, 79, 77, 69, 84, 82, 89, 67, 79, 76, 76, 69, 67, 84, 73, 79, 78, 32, 90, 32] ++ [40] ++ joinT g i ++ [44, 32]) w') => hcc _ w' h (by simp only [List.length_append, List.length_singleton, List.length_cons, List.length_nil]; omega))
          have HSQ : Hid (s ++ [71, 69, 79, 77, 69, 84, 82, 89, 67, 79, 76, 76, 69, 67, 84, 73, 79, 78, 32, 90, 32] ++ [40] ++ joinT g i ++ [44, 32] ++ X = s ++ [71, 69, 79, 77, 69, 84, 82, 89, 67, 79, 76, 76, 69, 67, 84, 73, 79, 78, 32, 90, 32] ++ [40] ++ joinT g (i + 1)) := Lib.hid (by rw [HJS.out]; simp [commaT])
          clear hcc hmo hi0 hcl
          go_wp2_with (fail)
          refine HWS.out.mono ?_
          rintro e6 w6 ⟨m6, rfl, hB6⟩
          have HB6 := Lib.hid hB6
          clear hB6
          go_wp2_with (fail)
          refine (HP.out _ HB6.out).mono ?_
          rintro e7 w7 ⟨rfl, hB7⟩
          have HB7 := Lib.hid hB7
          clear hB7
          go_wp2_with (fail)
          go_roundg (q - (i + 1))
          case measure => have := HI.out; omega
          case rel => exact ⟨i + 1, by omega, by go_num, by rw [← HSQ.out]; exact HB7.out⟩
      · have ei : i = q := by omega
        subst ei
        have H3 := Lib.hid (writeRune66 w0 b _ 41 (by decide) wr hB (by have := HL.out; simp only [List.length_append, List.length_singleton, List.length_cons, List.length_nil]; omega))
        clear hB hi
        go_wp2_with (fail)
        refine H3.out.mono ?_
        rintro e6 w6 ⟨m6, rfl, hB6⟩
        have HB6 := Lib.hid hB6
        clear hB6
        go_wp2_with (fail)
        go_ret
        exact ⟨rfl, by simpa using HB6.out⟩

set_option maxRecDepth 100000 in
set_option maxHeartbeats 4000000 in
theorem writeC_3 : WriteC 3 := by
  intro w0 eb b d l s0 f e es kids v s w hv hY hLT hkl ih hB hl
  have hbt : wktT d (.mk 7 l s0 f e es kids) = [71, 69, 79, 77, 69, 84, 82, 89, 67, 79, 76, 76, 69, 67, 84, 73, 79, 78, 32, 77, 32] ++ bodyT d (.mk 7 l s0 f e es kids) := by
    rw [wktT_eq, hLT]
    rfl
  have hlay := hv.layC hY

  rw [hbt] at hl ⊢
  rw [← List.append_assoc]
  have hbd : bodyT d (.mk 7 l s0 f e es kids) = (if kids.length = 0 then emptyT else inBr (joinT (fun i => (wktTs d kids).getD i []) kids.length)) := rfl
  rw [hbd] at hl ⊢
  clear hbt hbd
  simp only [List.length_append] at hl
  have H1 := Lib.hid (header2 w0 b s [71, 69, 79, 77, 69, 84, 82, 89, 67, 79, 76, 76, 69, 67, 84, 73, 79, 78, 32] [77, 32] w hB (by simp only [List.length_append, List.length_cons, List.length_nil] at hl ⊢; omega))
  obtain ⟨gb, gv, rfl, hlt, hcl, kv, hg, hk⟩ := hv.cl_inv
  obtain ⟨T, K, b', hveq, hm, hen, hcall⟩ := hlay
  injection hveq with e1 e2
  injection e2 with e2
  injection e2 with e2
  injection e2 with e2 _ _
  subst e1 e2
  rw [hLT] at hcall

  have HLAY := Lib.hid (hcall w hB.below)
  obtain ⟨A, cap, rfl, hl0, hl1, _⟩ := id hg
  unfold maxLen at hl1
  have ta67 := fun w => ta_no (T := 93) (U := 67) (by decide) (by decide) (by decide) gb w
  have ta70 := fun w => ta_no (T := 93) (U := 70) (by decide) (by decide) (by decide) gb w
  have ta73 := fun w => ta_no (T := 93) (U := 73) (by decide) (by decide) (by decide) gb w
  have ta76 := fun w => ta_no (T := 93) (U := 76) (by decide) (by decide) (by decide) gb w
  have ta80 := fun w => ta_no (T := 93) (U := 80) (by decide) (by decide) (by decide) gb w
  have ta86 := fun w => ta_no (T := 93) (U := 86) (by decide) (by decide) (by decide) gb w
  have ta89 := fun w => ta_no (T := 93) (U := 89) (by decide) (by decide) (by decide) gb w
  have ta93 := fun w => ta_yes (T := 93) (by decide) gb w
  have hnum : ∀ w', Below w0.heap.size w0 w' → Calls Tryz.prog 65 #[.pointer (some ⟨gb, 0, none⟩)] w' (Same (.int .i64 kids.length) w') := fun w' h => num65 gb kids.length cap A w' (hcl w' h).2
  have hgeo : ∀ w', Below w0.heap.size w0 w' → Calls Tryz.prog 67 #[.pointer (some ⟨gb, 0, none⟩)] w' (Same (.slice A kids.length cap) w') := fun w' h => geoms67 gb _ w' (hcl w' h).2
  have HIH := Lib.hid ih
  have HKID := Lib.hid hk
  obtain ⟨q, hq⟩ : ∃ q, kids.length = q := ⟨_, rfl⟩
  rw [hq] at hl0 hl hg hkl ⊢
  simp only [hq] at hnum hgeo
  have HNUM := Lib.hid hnum
  have HGEO := Lib.hid hgeo
  have HQ := Lib.hid hq
  have HG := Lib.hid hg
  have hBw := Lib.hid hB.below
  clear hcall hcl hv hY hLT hk ih hg hq hnum hgeo hB hlt
  by_cases h0 : q = 0
  · subst h0
    rw [if_pos rfl] at hl ⊢
    have HEE := Lib.hid (fun w' (h : Bld w0 b (s ++ [71, 69, 79, 77, 69, 84, 82, 89, 67, 79, 76, 76, 69, 67, 84, 73, 79, 78, 32, 77, 32]) w') => writeEmpty52 w0 b _ (.pointer (some ⟨eb, 0, none⟩)) w' h (by have h5 : emptyT.length = 5 := rfl; simp only [List.length_append, List.length_cons, List.length_nil, h5] at hl ⊢; omega))
    clear hl
    go_enter Tryz.func22, Tryz.ntmps22
    go_wp2_with (fail)
    refine HLAY.out.mono ?_
    rintro e1 w1 ⟨rfl, rfl⟩
    go_wp2_with (fail)
    refine H1.out.mono ?_
    rintro e2 w2 ⟨m2, rfl, hB2⟩
    have HB2 := Lib.hid hB2
    clear hB2
    go_wp2_with (fail)
    refine (HNUM.out _ HB2.out.below).mono ?_
    rintro e3 w3 ⟨rfl, rfl⟩
    go_wp2_with (fail)
    refine (HEE.out _ HB2.out).mono ?_
    rintro e4 w4 ⟨rfl, hB4⟩
    have HB4 := Lib.hid hB4
    clear hB4
    go_wp2_with (fail)
    go_ret
    exact ⟨rfl, HB4.out⟩
  · rw [if_neg h0] at hl ⊢
    have hne : ((q : Int) == 0) = false := beq_false_of_ne (by omega)
    obtain ⟨g, hgg⟩ : ∃ g : Nat → List UInt8, (fun i => (wktTs d kids).getD i []) = g := ⟨_, rfl⟩
    rw [hgg] at hl ⊢
    have HGG := Lib.hid (fun i => (congrFun hgg i).symm)
    unfold inBr at hl ⊢
    simp only [List.length_append, List.length_singleton, List.length_cons, List.length_nil] at hl
    have HL := Lib.hid hl
    have HMO := Lib.hid (fun i (h : i ≤ q) => joinT_mono g q i h)
    have H40 := Lib.hid (fun w' (h : Bld w0 b (s ++ [71, 69, 79, 77, 69, 84, 82, 89, 67, 79, 76, 76, 69, 67, 84, 73, 79, 78, 32, 77, 32]) w') => writeRune66 w0 b _ 40 (by decide) w' h (by simp only [List.length_append, List.length_cons, List.length_nil]; omega))
    clear hl hgg h0
    go_enter Tryz.func22, Tryz.ntmps22
    go_wp2_with (fail)
    refine HLAY.out.mono ?_
    rintro e1 w1 ⟨rfl, rfl⟩
    go_wp2_with (fail)
    refine H1.out.mono ?_
    rintro e2 w2 ⟨m2, rfl, hB2⟩
    have HB2 := Lib.hid hB2
    clear hB2
    go_wp2_with (fail)
    refine (HNUM.out _ HB2.out.below).mono ?_
    rintro e3 w3 ⟨rfl, rfl⟩
    go_wp2_with (fail)
    refine (H40.out _ HB2.out).mono ?_
    rintro e4 w4 ⟨m4, rfl, hB4⟩
    have HB4 := Lib.hid hB4
    clear hB4
    go_wp2_with (fail)
    refine (HGEO.out _ HB4.out.below).mono ?_
    rintro e5 w5 ⟨rfl, rfl⟩
    go_wp2_with (fail)
    go_loopg [290] q (fun gk vc wr => ∃ i : Nat, i + gk = q ∧ vc = .int .i64 i ∧ Bld w0 b (s ++ [71, 69, 79, 77, 69, 84, 82, 89, 67, 79, 76, 76, 69, 67, 84, 73, 79, 78, 32, 77, 32] ++ [40] ++ joinT g i) wr)
    case atStart => exact ⟨0, by omega, by go_num, by simpa [joinT] using HB4.out⟩
    case round =>
      obtain ⟨i, hi, rfl, hB⟩ := hrel
      by_cases hlt : i < q
      · have HI := Lib.hid hi
        have hil : i < kids.length := by rw [HQ.out]; exact hlt
        obtain ⟨bb, o, rfl, _, h0⟩ := (HG.out.below (Nat.le_refl _) hB.below).one hlt
        obtain ⟨v', hv'⟩ : ∃ v', kv i = v' := ⟨_, rfl⟩
        rw [hv'] at h0
        have hT : g i = wktT d kids[i] := by rw [HGG.out, wktTs_getD d kids i hil]
        have hcc := fun s' w' h h' => HIH.out i hil v' s' w' (by rw [← hv']; exact HKID.out i hil) h h'
        rw [← hT] at hcc
        have hmo := HMO.out (i + 1) (by omega)
        have hjs : joinT g (i + 1) = joinT g i ++ (if i = 0 then [] else commaT) ++ g i := rfl
        rw [hjs] at hmo
        have HJS := Lib.hid hjs
        have hL2 := HL.out
        have HB0 := Lib.hid hB
        obtain ⟨X, hX⟩ : ∃ X, g i = X := ⟨_, rfl⟩
        simp only [hX] at hcc hmo
        rw [hX] at HJS
        simp only [List.length_append] at hmo
        clear hi hv' hT hjs hB hX
        by_cases hi0 : i = 0
        · subst hi0
          rw [if_pos rfl] at HJS hmo
          rw [Nat.add_zero] at h0
          rw [show ((0 : Nat) : Int) = 0 from rfl]
          have HP := Lib.hid (fun w' (h : Bld w0 b (s ++ [71, 69, 79, 77, 69, 84, 82, 89, 67, 79, 76, 76, 69, 67, 84, 73, 79, 78, 32, 77, 32] ++ [40] ++ joinT g 0) w') => hcc _ w' h (by simp only [List.length_append, List.length_singleton, List.length_cons, List.length_nil]; simp at hmo; omega))
          have HSQ : Hid (s ++ [71, 69, 79, 77, 69, 84, 82, 89, 67, 79, 76, 76, 69, 67, 84, 73, 79, 78, 32, 77, 32] ++ [40] ++ joinT g 0 ++ X = s ++ [71, 69, 79, 77, 69, 84, 82, 89, 67, 79, 76, 76, 69, 67, 84, 73, 79, 78, 32, 77, 32] ++ [40] ++ joinT g (0 + 1)) := Lib.hid (by rw [HJS.out]; simp)
          clear hcc hmo
          go_wp2_with (fail)
          refine (HP.out _ HB0.out).mono ?_
          rintro e6 w6 ⟨rfl, hB6⟩
          have HB6 := Lib.hid hB6
          clear hB6
          go_wp2_with (fail)
          go_roundg (q - (0 + 1))
          case measure => have := HI.out; omega
          case rel => exact ⟨0 + 1, by omega, by go_num, by rw [← HSQ.out]; exact HB6.out⟩
        · have hib : ((i : Int) == 0) = false := beq_false_of_ne (by omega)
          have hip : 0 < i := by omega
          rw [if_neg hi0] at HJS hmo
          have hcl : commaT.length = 2 := rfl
          rw [hcl] at hmo
          have HWS := Lib.hid (writeString50 w0 b _ [44, 32] _ HB0.out (by simp only [List.length_append, List.length_singleton, List.length_cons, List.length_nil]; omega))
          have HP := Lib.hid (fun w' (h : Bld w0 b (s ++ [71, 69, 79, 77, 69, 84, 82, 89, 67, 79, 76, 76, 69, 67, 84, 73, 79, 78, 32, 77, 32] ++ [40] ++ joinT g i ++ [44, 32]) w') => hcc _ w' h (by simp only [List.length_append, List.length_singleton, List.length_cons, List.length_nil]; omega))
          have HSQ : Hid (s ++ [71, 69, 79, 77, 69, 84, 82, 89, 67, 79, 76, 76, 69, 67, 84, 73, 79, 78, 32, 77, 32] ++ [40] ++ joinT g i ++ [44, 32] ++ X = s ++ [71, 69, 79, 77, 69, 84, 82, 89, 67, 79, 76, 76, 69, 67, 84, 73, 79, 78, 32, 77, 32] ++ [40] ++ joinT g (i + 1)) := Lib.hid (by rw [HJS.out]; simp [commaT])
          clear hcc hmo hi0 hcl
          go_wp2_with (fail)
          refine HWS.out.mono ?_
          rintro e6 w6 ⟨m6, rfl, hB6⟩
          have HB6 := Lib.hid hB6
          clear hB6
          go_wp2_with (fail)
          refine (HP.out _ HB6.out).mono ?_
          rintro e7 w7 ⟨rfl, hB7⟩
          have HB7 := Lib.hid hB7
          clear hB7
          go_wp2_with (fail)
          go_roundg (q - (i + 1))
          case measure => have := HI.out; omega
          case rel => exact ⟨i + 1, by omega, by go_num, by rw [← HSQ.out]; exact HB7.out⟩
      · have ei : i = q := by omega
        subst ei
        have H3 := Lib.hid (writeRune66 w0 b _ 41 (by decide) wr hB (by have := HL.out; simp only [List.length_append, List.length_singleton, List.length_cons, List.length_nil]; omega))
        clear hB hi
        go_wp2_with (fail)
        refine H3.out.mono ?_
        rintro e6 w6 ⟨m6, rfl, hB6⟩
        have HB6 := Lib.hid hB6
        clear hB6
        go_wp2_with (fail)
        go_ret
        exact ⟨rfl, by simpa using HB6.out⟩

set_option maxRecDepth 100000 in
set_option maxHeartbeats 4000000 in
theorem writeC_4 : WriteC 4 := by
  intro w0 eb b d l s0 f e es kids v s w hv hY hLT hkl ih hB hl
  have hbt : wktT d (.mk 7 l s0 f e es kids) = [71, 69, 79, 77, 69, 84, 82, 89, 67, 79, 76, 76, 69, 67, 84, 73, 79, 78, 32, 90, 77, 32] ++ bodyT d (.mk 7 l s0 f e es kids) := by
    rw [wktT_eq, hLT]
    rfl
  have hlay := hv.layC hY

  rw [hbt] at hl ⊢
  rw [← List.append_assoc]
  have hbd : bodyT d (.mk 7 l s0 f e es kids) = (if kids.length = 0 then emptyT else inBr (joinT (fun i => (wktTs d kids).getD i []) kids.length)) := rfl
  rw [hbd] at hl ⊢
  clear hbt hbd
  simp only [List.length_append] at hl
  have H1 := Lib.hid (header2 w0 b s [71, 69, 79, 77, 69, 84, 82, 89, 67, 79, 76, 76, 69, 67, 84, 73, 79, 78, 32] [90, 77, 32] w hB (by simp only [List.length_append, List.length_cons, List.length_nil] at hl ⊢; omega))
  obtain ⟨gb, gv, rfl, hlt, hcl, kv, hg, hk⟩ := hv.cl_inv
  obtain ⟨T, K, b', hveq, hm, hen, hcall⟩ := hlay
  injection hveq with e1 e2
  injection e2 with e2
  injection e2 with e2
  injection e2 with e2 _ _
  subst e1 e2
  rw [hLT] at hcall

  have HLAY := Lib.hid (hcall w hB.below)
  obtain ⟨A, cap, rfl, hl0, hl1, _⟩ := id hg
  unfold maxLen at hl1
  have ta67 := fun w => ta_no (T := 93) (U := 67) (by decide) (by decide) (by decide) gb w
  have ta70 := fun w => ta_no (T := 93) (U := 70) (by decide) (by decide) (by decide) gb w
  have ta73 := fun w => ta_no (T := 93) (U := 73) (by decide) (by decide) (by decide) gb w
  have ta76 := fun w => ta_no (T := 93) (U := 76) (by decide) (by decide) (by decide) gb w
  have ta80 := fun w => ta_no (T := 93) (U := 80) (by decide) (by decide) (by decide) gb w
  have ta86 := fun w => ta_no (T := 93) (U := 86) (by decide) (by decide) (by decide) gb w
  have ta89 := fun w => ta_no (T := 93) (U := 89) (by decide) (by decide) (by decide) gb w
  have ta93 := fun w => ta_yes (T := 93) (by decide) gb w
  have hnum : ∀ w', Below w0.heap.size w0 w' → Calls Tryz.prog 65 #[.pointer (some ⟨gb, 0, none⟩)] w' (Same (.int .i64 kids.length) w') := fun w' h => num65 gb kids.length cap A w' (hcl w' h).2
  have hgeo : ∀ w', Below w0.heap.size w0 w' → Calls Tryz.prog 67 #[.pointer (some ⟨gb, 0, none⟩)] w' (Same (.slice A kids.length cap) w') := fun w' h => geoms67 gb _ w' (hcl w' h).2
  have HIH := Lib.hid ih
  have HKID := Lib.hid hk
  obtain ⟨q, hq⟩ : ∃ q, kids.length = q := ⟨_, rfl⟩
  rw [hq] at hl0 hl hg hkl ⊢
  simp only [hq] at hnum hgeo
  have HNUM := Lib.hid hnum
  have HGEO := Lib.hid hgeo
  have HQ := Lib.hid hq
  have HG := Lib.hid hg
  have hBw := Lib.hid hB.below
  clear hcall hcl hv hY hLT hk ih hg hq hnum hgeo hB hlt
  by_cases h0 : q = 0
  · subst h0
    rw [if_pos rfl] at hl ⊢
    have HEE := Lib.hid (fun w' (h : Bld w0 b (s ++ [71, 69, 79, 77, 69, 84, 82, 89, 67, 79, 76, 76, 69, 67, 84, 73, 79, 78, 32, 90, 77, 32]) w') => writeEmpty52 w0 b _ (.pointer (some ⟨eb, 0, none⟩)) w' h (by have h5 : emptyT.length = 5 := rfl; simp only [List.length_append, List.length_cons, List.length_nil, h5] at hl ⊢; omega))
    clear hl
    go_enter Tryz.func22, Tryz.ntmps22
    go_wp2_with (fail)
    refine HLAY.out.mono ?_
    rintro e1 w1 ⟨rfl, rfl⟩
    go_wp2_with (fail)
    refine H1.out.mono ?_
    rintro e2 w2 ⟨m2, rfl, hB2⟩
    have HB2 := Lib.hid hB2
    clear hB2
    go_wp2_with (fail)
    refine (HNUM.out _ HB2.out.below).mono ?_
    rintro e3 w3 ⟨rfl, rfl⟩
    go_wp2_with (fail)
    refine (HEE.out _ HB2.out).mono ?_
    rintro e4 w4 ⟨rfl, hB4⟩
    have HB4 := Lib.hid hB4
    clear hB4
    go_wp2_with (fail)
    go_ret
    exact ⟨rfl, HB4.out⟩
  · rw [if_neg h0] at hl ⊢
    have hne : ((q : Int) == 0) = false := beq_false_of_ne (by omega)
    obtain ⟨g, hgg⟩ : ∃ g : Nat → List UInt8, (fun i => (wktTs d kids).getD i []) = g := ⟨_, rfl⟩
    rw [hgg] at hl ⊢
    have HGG := Lib.hid (fun i => (congrFun hgg i).symm)
    unfold inBr at hl ⊢
    simp only [List.length_append, List.length_singleton, List.length_cons, List.length_nil] at hl
    have HL := Lib.hid hl
    have HMO := Lib.hid (fun i (h : i ≤ q) => joinT_mono g q i h)
    have H40 := Lib.hid (fun w' (h : Bld w0 b (s ++ [71, 69, 79, 77, 69, 84, 82, 89, 67, 79, 76, 76, 69, 67, 84, 73, 79, 78, 32, 90, 77, 32]) w') => writeRune66 w0 b _ 40 (by decide) w' h (by simp only [List.length_append, List.length_cons, List.length_nil]; omega))
    clear hl hgg h0
    go_enter Tryz.func22, Tryz.ntmps22
    go_wp2_with (fail)
    refine HLAY.out.mono ?_
    rintro e1 w1 ⟨rfl, rfl⟩
    go_wp2_with (fail)
    refine H1.out.mono ?_
    rintro e2 w2 ⟨m2, rfl, hB2⟩
    have HB2 := Lib.hid hB2
    clear hB2
    go_wp2_with (fail)
    refine (HNUM.out _ HB2.out.below).mono ?_
    rintro e3 w3 ⟨rfl, rfl⟩
    go_wp2_with (fail)
    refine (H40.out _ HB2.out).mono ?_
    rintro e4 w4 ⟨m4, rfl, hB4⟩
    have HB4 := Lib.hid hB4
    clear hB4
    go_wp2_with (fail)
    refine (HGEO.out _ HB4.out.below).mono ?_
    rintro e5 w5 ⟨rfl, rfl⟩
    go_wp2_with (fail)
    go_loopg [290] q (fun gk vc wr => ∃ i : Nat, i + gk = q ∧ vc = .int .i64 i ∧ Bld w0 b (s ++ [71, 69, 79, 77, 69, 84, 82, 89, 67, 79, 76, 76, 69, 67, 84, 73, 79, 78, 32, 90, 77, 32] ++ [40] ++ joinT g i) wr)
    case atStart => exact ⟨0, by omega, by go_num, by simpa [joinT] using HB4.out⟩
    case round =>
      obtain ⟨i, hi, rfl, hB⟩ := hrel
      by_cases hlt : i < q
      · have HI := Lib.hid hi
        have hil : i < kids.length := by rw [HQ.out]; exact hlt
        obtain ⟨bb, o, rfl, _, h0⟩ := (HG.out.below (Nat.le_refl _) hB.below).one hlt
        obtain ⟨v', hv'⟩ : ∃ v', kv i = v' := ⟨_, rfl⟩
        rw [hv'] at h0
        have hT : g i = wktT d kids[i] := by rw [HGG.out, wktTs_getD d kids i hil]
        have hcc := fun s' w' h h' => HIH.out i hil v' s' w' (by rw [← hv']; exact HKID.out i hil) h h'
        rw [← hT] at hcc
        have hmo := HMO.out (i + 1) (by omega)
        have hjs : joinT g (i + 1) = joinT g i ++ (if i = 0 then [] else commaT) ++ g i := rfl
        rw [hjs] at hmo
        have HJS := Lib.hid hjs
        have hL2 := HL.out
        have HB0 := Lib.hid hB
        obtain ⟨X, hX⟩ : ∃ X, g i = X := ⟨_, rfl⟩
        simp only [hX] at hcc hmo
        rw [hX] at HJS
        simp only [List.length_append] at hmo
        clear hi hv' hT hjs hB hX
        by_cases hi0 : i = 0
        · subst hi0
          rw [if_pos rfl] at HJS hmo
          rw [Nat.add_zero] at h0
          rw [show ((0 : Nat) : Int) = 0 from rfl]
          have HP := Lib.hid (fun w' (h : Bld w0 b (s ++ [71, 69, 79, 77, 69, 84, 82, 89, 67, 79, 76, 76, 69, 67, 84, 73, 79, 78, 32, 90, 77, 32] ++ [40] ++ joinT g 0) w') => hcc _ w' h (by simp only [List.length_append, List.length_singleton, List.length_cons, List.length_nil]; simp at hmo; omega))
          have HSQ : Hid (s ++ [71, 69, 79, 77, 69, 84, 82, 89, 67, 79, 76, 76, 69, 67, 84, 73, 79, 78, 32, 90, 77, 32] ++ [40] ++ joinT g 0 ++ X = s ++ [71, 69, 79, 77, 69, 84, 82, 89, 67, 79, 76, 76, 69, 67, 84, 73, 79, 78, 32, 90, 77, 32] ++ [40] ++ joinT g (0 + 1)) := Lib.hid (by rw [HJS.out]; simp)
          clear hcc hmo
          go_wp2_with (fail)
          refine (HP.out _ HB0.out).mono ?_
          rintro e6 w6 ⟨rfl, hB6⟩
          have HB6 := Lib.hid hB6
          clear hB6
          go_wp2_with (fail)
          go_roundg (q - (0 + 1))
          case measure => have := HI.out; omega
          case rel => exact ⟨0 + 1, by omega, by go_num, by rw [← HSQ.out]; exact HB6.out⟩
        · have hib : ((i : Int) == 0) = false := beq_false_of_ne (by omega)
          have hip : 0 < i := by omega
          rw [if_neg hi0] at HJS hmo
          have hcl : commaT.length = 2 := rfl
          rw [hcl] at hmo
          have HWS := Lib.hid (writeString50 w0 b _ [44, 32] _ HB0.out (by simp only [List.length_append, List.length_singleton, List.length_cons, List.length_nil]; omega))
          have HP := Lib.hid (fun w' (h : Bld w0 b (s ++ [71, 69, 79, 77, 69, 84, 82, 89, 67, 79, 76, 76, 69, 67, 84, 73, 79, 78, 32, 90, 77, 32] ++ [40] ++ joinT g i ++ [44, 32]) w') => hcc _ w' h (by simp only [List.length_append, List.length_singleton, List.length_cons, List.length_nil]; omega))
          have HSQ : Hid (s ++ [71, 69, 79, 77, 69, 84, 82, 89, 67, 79, 76, 76, 69, 67, 84, 73, 79, 78, 32, 90, 77, 32] ++ [40] ++ joinT g i ++ [44, 32] ++ X = s ++ [71, 69, 79, 77, 69, 84, 82, 89, 67, 79, 76, 76, 69, 67, 84, 73, 79, 78, 32, 90, 77, 32] ++ [40] ++ joinT g (i + 1)) := Lib.hid (by rw [HJS.out]; simp [commaT])
          clear hcc hmo hi0 hcl
          go_wp2_with (fail)
          refine HWS.out.mono ?_
          rintro e6 w6 ⟨m6, rfl, hB6⟩
          have HB6 := Lib.hid hB6
          clear hB6
          go_wp2_with (fail)
          refine (HP.out _ HB6.out).mono ?_
          rintro e7 w7 ⟨rfl, hB7⟩
          have HB7 := Lib.hid hB7
          clear hB7
          go_wp2_with (fail)
          go_roundg (q - (i + 1))
          case measure => have := HI.out; omega
          case rel => exact ⟨i + 1, by omega, by go_num, by rw [← HSQ.out]; exact HB7.out⟩
      · have ei : i = q := by omega
        subst ei
        have H3 := Lib.hid (writeRune66 w0 b _ 41 (by decide) wr hB (by have := HL.out; simp only [List.length_append, List.length_singleton, List.length_cons, List.length_nil]; omega))
        clear hB hi
        go_wp2_with (fail)
        refine H3.out.mono ?_
        rintro e6 w6 ⟨m6, rfl, hB6⟩
        have HB6 := Lib.hid hB6
        clear hB6
        go_wp2_with (fail)
        go_ret
        exact ⟨rfl, by simpa using HB6.out⟩
end Go.Proofs.YtokmamakmaojpaaGreatDoor

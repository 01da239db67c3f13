/-
  The encoder: write, kind 5.
-/
import Derived.Test.YtokmamakmaojpaaGreatDoorM21
import Derived.Deep.RegionWith
set_option linter.unusedVariables false
set_option linter.unusedSimpArgs false
namespace Go.Proofs.YtokmamakmaojpaaGreatDoor
open Go.RowKit

set_option maxRecDepth 100000 in
set_option maxHeartbeats 4000000 in
theorem write_5_1 : WriteS 5 1 := by
  intro w0 eb b d s0 f e es kids v s w hE hv hok hP hW hB hl
  have hbt : wktT d (.mk 5 1 s0 f e es kids) = [77, 85, 76, 84, 73, 76, 73, 78, 69, 83, 84, 82, 73, 78, 71, 32] ++ bodyT d (.mk 5 1 s0 f e es kids) := by
    rw [wktT_eq, layT_own 5 1 s0 f e es kids (Or.inl (by decide))]
    rfl
  rw [hbt] at hl ⊢
  rw [← List.append_assoc]
  have hbd : bodyT d (.mk 5 1 s0 f e es kids) = (if e.length = 0 then emptyT else ringsT 2 d f 0 e) := rfl
  have hS : (strideF 1).toNat = 2 := rfl
  rw [hS] at hP
  rw [hbd] at hl ⊢
  clear hbt hbd hS
  simp only [List.length_append] at hl
  have H1 := Lib.hid (writeString50 w0 b s [77, 85, 76, 84, 73, 76, 73, 78, 69, 83, 84, 82, 73, 78, 71, 32] w hB (by simp only [List.length_append, List.length_cons, List.length_nil] at hl ⊢; omega))
  obtain ⟨gb, v3, v4, hve, hlt, hcl, hrow, hrow4⟩ := hv.rg_inv (by omega)
  rw [show ptrT 5 = 86 from rfl] at hve
  subst hve
  obtain ⟨A3, cap3, rfl, hl0, hl1, _⟩ := id hrow
  unfold maxLen at hl1
  obtain ⟨A4, cap4, rfl, hl40, hl41, _⟩ := id hrow4
  unfold maxLen at hl41
  have hlay : ∀ w', Below w0.heap.size w0 w' → Calls Tryz.prog 154 #[.pointer (some ⟨gb, 0, none⟩)] w' (Same (.int .i64 1) w') := fun w' h => layout154 gb 1 w' (hcl w' h).1
  have hml := fun w => meth_layout 5 (by decide) gb w
  rw [show ptrT 5 = 86 from rfl] at hml
  have ta67 := fun w => ta_no (T := 86) (U := 67) (by decide) (by decide) (by decide) gb w
  have ta70 := fun w => ta_no (T := 86) (U := 70) (by decide) (by decide) (by decide) gb w
  have ta73 := fun w => ta_no (T := 86) (U := 73) (by decide) (by decide) (by decide) gb w
  have ta76 := fun w => ta_no (T := 86) (U := 76) (by decide) (by decide) (by decide) gb w
  have ta80 := fun w => ta_no (T := 86) (U := 80) (by decide) (by decide) (by decide) gb w
  have ta86 := fun w => ta_yes (T := 86) (by decide) gb w
  have HLAY := Lib.hid (hlay w hB.below)
  have hstr := fun w => stride55at 1 2 (by decide) (by decide) rfl w
  have HSTR := Lib.hid hstr
  have hfl : ∀ w', Below w0.heap.size w0 w' → Calls Tryz.prog 54 #[.pointer (some ⟨gb, 0, none⟩)] w' (Same (.slice A3 f.length cap3) w') := fun w' h => flat54 gb _ w' (hcl w' h).2.1
  have HFL := Lib.hid hfl
  have hem : ∀ w', Below w0.heap.size w0 w' → Calls Tryz.prog 61 #[.pointer (some ⟨gb, 0, none⟩)] w' (Same (.int .i64 e.length) w') := fun w' h => num61 gb e.length cap4 A4 w' (hcl w' h).2.2
  have HEM := Lib.hid hem
  have hen : ∀ w', Below w0.heap.size w0 w' → Calls Tryz.prog 58 #[.pointer (some ⟨gb, 0, none⟩)] w' (Same (.slice A4 e.length cap4) w') := fun w' h => ends58 gb _ w' (hcl w' h).2.2
  have HEN := Lib.hid hen
  have HE0 := Lib.hid (fun w' (h : Bld w0 b (s ++ [77, 85, 76, 84, 73, 76, 73, 78, 69, 83, 84, 82, 73, 78, 71, 32]) w') (h2 : s.length + 16 + 5 ≤ 140737488355328) => writeEmpty52 w0 b _ (.pointer (some ⟨eb, 0, none⟩)) w' h (by simp only [List.length_append, List.length_cons, List.length_nil]; omega))
  by_cases h0 : e.length = 0
  · rw [if_pos h0] at hl ⊢
    have hl5 : s.length + 16 + 5 ≤ 140737488355328 := by have h5 : emptyT.length = 5 := rfl; simp only [List.length_cons, List.length_nil, h5] at hl; omega
    have HEE := Lib.hid (fun w' h => HE0.out w' h hl5)
    rw [h0] at HEM
    clear hlay hstr hfl hem hen hl hl5 h0 hcl hrow hv hB hE hok hP
    go_enter Tryz.func22, Tryz.ntmps22
    go_wp2_with (fail)
    refine HLAY.out.mono ?_
    rintro e1 w1 ⟨rfl, rfl⟩
    go_wp2_with (fail)
    refine H1.out.mono ?_
    rintro e2 w2 ⟨m2, rfl, hB2⟩
    have HB2 := Lib.hid hB2
    clear hB2
    go_wp2_with (fail)
    refine (HEM.out _ HB2.out.below).mono ?_
    rintro e3 w3 ⟨rfl, rfl⟩
    go_wp2_with (fail)
    refine (HEE.out _ HB2.out).mono ?_
    rintro e4 w4 ⟨rfl, hB4⟩
    have HB4 := Lib.hid hB4
    clear hB4
    go_wp2_with (fail)
    go_ret
    exact ⟨rfl, HB4.out⟩
  · rw [if_neg h0] at hl ⊢
    have HWC := Lib.hid (fun w' (h : Bld w0 b (s ++ [77, 85, 76, 84, 73, 76, 73, 78, 69, 83, 84, 82, 73, 78, 71, 32]) w') => writeFlat2_57 w0 eb b d hE f hok _ hrow 2 (by decide) (by decide) hW 0 (Nat.zero_le _) e _ hrow4 (hP.ends (by decide)).1 _ w' h (by simp only [List.length_append, List.length_cons, List.length_nil] at hl ⊢; omega))
    have hne : ((e.length : Int) == 0) = false := beq_false_of_ne (by omega)
    clear hlay hstr hfl hem hen hl h0 hcl hrow hv hB hE hok hP
    go_enter Tryz.func22, Tryz.ntmps22
    go_wp2_with (fail)
    refine HLAY.out.mono ?_
    rintro e1 w1 ⟨rfl, rfl⟩
    go_wp2_with (fail)
    refine H1.out.mono ?_
    rintro e2 w2 ⟨m2, rfl, hB2⟩
    have HB2 := Lib.hid hB2
    clear hB2
    go_wp2_with (fail)
    refine (HEM.out _ HB2.out.below).mono ?_
    rintro e3 w3 ⟨rfl, rfl⟩
    go_upto_region 73 with (fail)
    go_region_with (first | (go_at_call 54; refine (HFL.out _ (HB2.out.drewN 1).below).mono ?_; rintro e4 w4 ⟨rfl, rfl⟩) | (go_at_call 58; refine (HEN.out _ (HB2.out.drewN 1).below).mono ?_; rintro e4 w4 ⟨rfl, rfl⟩) | (go_at_call 55; refine (HSTR.out _).mono ?_; rintro e4 w4 ⟨rfl, rfl⟩) | (go_at_call 57; refine (HWC.out _ (HB2.out.drewN 1)).mono ?_; rintro e6 w6 ⟨rfl, hB6⟩; have HB6 := Lib.hid hB6; clear hB6))
    all_goals
      go_wp2_with (fail)
      go_ret
      exact ⟨rfl, HB6.out⟩

set_option maxRecDepth 100000 in
set_option maxHeartbeats 4000000 in
theorem write_5_2 : WriteS 5 2 := by
  intro w0 eb b d s0 f e es kids v s w hE hv hok hP hW hB hl
  have hbt : wktT d (.mk 5 2 s0 f e es kids) = [77, 85, 76, 84, 73, 76, 73, 78, 69, 83, 84, 82, 73, 78, 71, 32, 90, 32] ++ bodyT d (.mk 5 2 s0 f e es kids) := by
    rw [wktT_eq, layT_own 5 2 s0 f e es kids (Or.inl (by decide))]
    rfl
  rw [hbt] at hl ⊢
  rw [← List.append_assoc]
  have hbd : bodyT d (.mk 5 2 s0 f e es kids) = (if e.length = 0 then emptyT else ringsT 3 d f 0 e) := rfl
  have hS : (strideF 2).toNat = 3 := rfl
  rw [hS] at hP
  rw [hbd] at hl ⊢
  clear hbt hbd hS
  simp only [List.length_append] at hl
  have H1 := Lib.hid (header2 w0 b s [77, 85, 76, 84, 73, 76, 73, 78, 69, 83, 84, 82, 73, 78, 71, 32] [90, 32] w hB (by simp only [List.length_append, List.length_cons, List.length_nil] at hl ⊢; omega))
  obtain ⟨gb, v3, v4, hve, hlt, hcl, hrow, hrow4⟩ := hv.rg_inv (by omega)
  rw [show ptrT 5 = 86 from rfl] at hve
  subst hve
  obtain ⟨A3, cap3, rfl, hl0, hl1, _⟩ := id hrow
  unfold maxLen at hl1
  obtain ⟨A4, cap4, rfl, hl40, hl41, _⟩ := id hrow4
  unfold maxLen at hl41
  have hlay : ∀ w', Below w0.heap.size w0 w' → Calls Tryz.prog 154 #[.pointer (some ⟨gb, 0, none⟩)] w' (Same (.int .i64 2) w') := fun w' h => layout154 gb 2 w' (hcl w' h).1
  have hml := fun w => meth_layout 5 (by decide) gb w
  rw [show ptrT 5 = 86 from rfl] at hml
  have ta67 := fun w => ta_no (T := 86) (U := 67) (by decide) (by decide) (by decide) gb w
  have ta70 := fun w => ta_no (T := 86) (U := 70) (by decide) (by decide) (by decide) gb w
  have ta73 := fun w => ta_no (T := 86) (U := 73) (by decide) (by decide) (by decide) gb w
  have ta76 := fun w => ta_no (T := 86) (U := 76) (by decide) (by decide) (by decide) gb w
  have ta80 := fun w => ta_no (T := 86) (U := 80) (by decide) (by decide) (by decide) gb w
  have ta86 := fun w => ta_yes (T := 86) (by decide) gb w
  have HLAY := Lib.hid (hlay w hB.below)
  have hstr := fun w => stride55at 2 3 (by decide) (by decide) rfl w
  have HSTR := Lib.hid hstr
  have hfl : ∀ w', Below w0.heap.size w0 w' → Calls Tryz.prog 54 #[.pointer (some ⟨gb, 0, none⟩)] w' (Same (.slice A3 f.length cap3) w') := fun w' h => flat54 gb _ w' (hcl w' h).2.1
  have HFL := Lib.hid hfl
  have hem : ∀ w', Below w0.heap.size w0 w' → Calls Tryz.prog 61 #[.pointer (some ⟨gb, 0, none⟩)] w' (Same (.int .i64 e.length) w') := fun w' h => num61 gb e.length cap4 A4 w' (hcl w' h).2.2
  have HEM := Lib.hid hem
  have hen : ∀ w', Below w0.heap.size w0 w' → Calls Tryz.prog 58 #[.pointer (some ⟨gb, 0, none⟩)] w' (Same (.slice A4 e.length cap4) w') := fun w' h => ends58 gb _ w' (hcl w' h).2.2
  have HEN := Lib.hid hen
  have HE0 := Lib.hid (fun w' (h : Bld w0 b (s ++ [77, 85, 76, 84, 73, 76, 73, 78, 69, 83, 84, 82, 73, 78, 71, 32, 90, 32]) w') (h2 : s.length + 18 + 5 ≤ 140737488355328) => writeEmpty52 w0 b _ (.pointer (some ⟨eb, 0, none⟩)) w' h (by simp only [List.length_append, List.length_cons, List.length_nil]; omega))
  by_cases h0 : e.length = 0
  · rw [if_pos h0] at hl ⊢
    have hl5 : s.length + 18 + 5 ≤ 140737488355328 := by have h5 : emptyT.length = 5 := rfl; simp only [List.length_cons, List.length_nil, h5] at hl; omega
    have HEE := Lib.hid (fun w' h => HE0.out w' h hl5)
    rw [h0] at HEM
    clear hlay hstr hfl hem hen hl hl5 h0 hcl hrow hv hB hE hok hP
    go_enter Tryz.func22, Tryz.ntmps22
    go_wp2_with (fail)
    refine HLAY.out.mono ?_
    rintro e1 w1 ⟨rfl, rfl⟩
    go_wp2_with (fail)
    refine H1.out.mono ?_
    rintro e2 w2 ⟨m2, rfl, hB2⟩
    have HB2 := Lib.hid hB2
    clear hB2
    go_wp2_with (fail)
    refine (HEM.out _ HB2.out.below).mono ?_
    rintro e3 w3 ⟨rfl, rfl⟩
    go_wp2_with (fail)
    refine (HEE.out _ HB2.out).mono ?_
    rintro e4 w4 ⟨rfl, hB4⟩
    have HB4 := Lib.hid hB4
    clear hB4
    go_wp2_with (fail)
    go_ret
    exact ⟨rfl, HB4.out⟩
  · rw [if_neg h0] at hl ⊢
    have HWC := Lib.hid (fun w' (h : Bld w0 b (s ++ [77, 85, 76, 84, 73, 76, 73, 78, 69, 83, 84, 82, 73, 78, 71, 32, 90, 32]) w') => writeFlat2_57 w0 eb b d hE f hok _ hrow 3 (by decide) (by decide) hW 0 (Nat.zero_le _) e _ hrow4 (hP.ends (by decide)).1 _ w' h (by simp only [List.length_append, List.length_cons, List.length_nil] at hl ⊢; omega))
    have hne : ((e.length : Int) == 0) = false := beq_false_of_ne (by omega)
    clear hlay hstr hfl hem hen hl h0 hcl hrow hv hB hE hok hP
    go_enter Tryz.func22, Tryz.ntmps22
    go_wp2_with (fail)
    refine HLAY.out.mono ?_
    rintro e1 w1 ⟨rfl, rfl⟩
    go_wp2_with (fail)
    refine H1.out.mono ?_
    rintro e2 w2 ⟨m2, rfl, hB2⟩
    have HB2 := Lib.hid hB2
    clear hB2
    go_wp2_with (fail)
    refine (HEM.out _ HB2.out.below).mono ?_
    rintro e3 w3 ⟨rfl, rfl⟩
    go_upto_region 73 with (fail)
    go_region_with (first | (go_at_call 54; refine (HFL.out _ (HB2.out.drewN 1).below).mono ?_; rintro e4 w4 ⟨rfl, rfl⟩) | (go_at_call 58; refine (HEN.out _ (HB2.out.drewN 1).below).mono ?_; rintro e4 w4 ⟨rfl, rfl⟩) | (go_at_call 55; refine (HSTR.out _).mono ?_; rintro e4 w4 ⟨rfl, rfl⟩) | (go_at_call 57; refine (HWC.out _ (HB2.out.drewN 1)).mono ?_; rintro e6 w6 ⟨rfl, hB6⟩; have HB6 := Lib.hid hB6; clear hB6))
    all_goals
      go_wp2_with (fail)
      go_ret
      exact ⟨rfl, HB6.out⟩

set_option maxRecDepth 100000 in
set_option maxHeartbeats 4000000 in
theorem write_5_3 : WriteS 5 3 := by
  intro w0 eb b d s0 f e es kids v s w hE hv hok hP hW hB hl
  have hbt : wktT d (.mk 5 3 s0 f e es kids) = [77, 85, 76, 84, 73, 76, 73, 78, 69, 83, 84, 82, 73, 78, 71, 32, 77, 32] ++ bodyT d (.mk 5 3 s0 f e es kids) := by
    rw [wktT_eq, layT_own 5 3 s0 f e es kids (Or.inl (by decide))]
    rfl
  rw [hbt] at hl ⊢
  rw [← List.append_assoc]
  have hbd : bodyT d (.mk 5 3 s0 f e es kids) = (if e.length = 0 then emptyT else ringsT 3 d f 0 e) := rfl
  have hS : (strideF 3).toNat = 3 := rfl
  rw [hS] at hP
  rw [hbd] at hl ⊢
  clear hbt hbd hS
  simp only [List.length_append] at hl
  have H1 := Lib.hid (header2 w0 b s [77, 85, 76, 84, 73, 76, 73, 78, 69, 83, 84, 82, 73, 78, 71, 32] [77, 32] w hB (by simp only [List.length_append, List.length_cons, List.length_nil] at hl ⊢; omega))
  obtain ⟨gb, v3, v4, hve, hlt, hcl, hrow, hrow4⟩ := hv.rg_inv (by omega)
  rw [show ptrT 5 = 86 from rfl] at hve
  subst hve
  obtain ⟨A3, cap3, rfl, hl0, hl1, _⟩ := id hrow
  unfold maxLen at hl1
  obtain ⟨A4, cap4, rfl, hl40, hl41, _⟩ := id hrow4
  unfold maxLen at hl41
  have hlay : ∀ w', Below w0.heap.size w0 w' → Calls Tryz.prog 154 #[.pointer (some ⟨gb, 0, none⟩)] w' (Same (.int .i64 3) w') := fun w' h => layout154 gb 3 w' (hcl w' h).1
  have hml := fun w => meth_layout 5 (by decide) gb w
  rw [show ptrT 5 = 86 from rfl] at hml
  have ta67 := fun w => ta_no (T := 86) (U := 67) (by decide) (by decide) (by decide) gb w
  have ta70 := fun w => ta_no (T := 86) (U := 70) (by decide) (by decide) (by decide) gb w
  have ta73 := fun w => ta_no (T := 86) (U := 73) (by decide) (by decide) (by decide) gb w
  have ta76 := fun w => ta_no (T := 86) (U := 76) (by decide) (by decide) (by decide) gb w
  have ta80 := fun w => ta_no (T := 86) (U := 80) (by decide) (by decide) (by decide) gb w
  have ta86 := fun w => ta_yes (T := 86) (by decide) gb w
  have HLAY := Lib.hid (hlay w hB.below)
  have hstr := fun w => stride55at 3 3 (by decide) (by decide) rfl w
  have HSTR := Lib.hid hstr
  have hfl : ∀ w', Below w0.heap.size w0 w' → Calls Tryz.prog 54 #[.pointer (some ⟨gb, 0, none⟩)] w' (Same (.slice A3 f.length cap3) w') := fun w' h => flat54 gb _ w' (hcl w' h).2.1
  have HFL := Lib.hid hfl
  have hem : ∀ w', Below w0.heap.size w0 w' → Calls Tryz.prog 61 #[.pointer (some ⟨gb, 0, none⟩)] w' (Same (.int .i64 e.length) w') := fun w' h => num61 gb e.length cap4 A4 w' (hcl w' h).2.2
  have HEM := Lib.hid hem
  have hen : ∀ w', Below w0.heap.size w0 w' → Calls Tryz.prog 58 #[.pointer (some ⟨gb, 0, none⟩)] w' (Same (.slice A4 e.length cap4) w') := fun w' h => ends58 gb _ w' (hcl w' h).2.2
  have HEN := Lib.hid hen
  have HE0 := Lib.hid (fun w' (h : Bld w0 b (s ++ [77, 85, 76, 84, 73, 76, 73, 78, 69, 83, 84, 82, 73, 78, 71, 32, 77, 32]) w') (h2 : s.length + 18 + 5 ≤ 140737488355328) => writeEmpty52 w0 b _ (.pointer (some ⟨eb, 0, none⟩)) w' h (by simp only [List.length_append, List.length_cons, List.length_nil]; omega))
  by_cases h0 : e.length = 0
  · rw [if_pos h0] at hl ⊢
    have hl5 : s.length + 18 + 5 ≤ 140737488355328 := by have h5 : emptyT.length = 5 := rfl; simp only [List.length_cons, List.length_nil, h5] at hl; omega
    have HEE := Lib.hid (fun w' h => HE0.out w' h hl5)
    rw [h0] at HEM
    clear hlay hstr hfl hem hen hl hl5 h0 hcl hrow hv hB hE hok hP
    go_enter Tryz.func22, Tryz.ntmps22
    go_wp2_with (fail)
    refine HLAY.out.mono ?_
    rintro e1 w1 ⟨rfl, rfl⟩
    go_wp2_with (fail)
    refine H1.out.mono ?_
    rintro e2 w2 ⟨m2, rfl, hB2⟩
    have HB2 := Lib.hid hB2
    clear hB2
    go_wp2_with (fail)
    refine (HEM.out _ HB2.out.below).mono ?_
    rintro e3 w3 ⟨rfl, rfl⟩
    go_wp2_with (fail)
    refine (HEE.out _ HB2.out).mono ?_
    rintro e4 w4 ⟨rfl, hB4⟩
    have HB4 := Lib.hid hB4
    clear hB4
    go_wp2_with (fail)
    go_ret
    exact ⟨rfl, HB4.out⟩
  · rw [if_neg h0] at hl ⊢
    have HWC := Lib.hid (fun w' (h : Bld w0 b (s ++ [77, 85, 76, 84, 73, 76, 73, 78, 69, 83, 84, 82, 73, 78, 71, 32, 77, 32]) w') => writeFlat2_57 w0 eb b d hE f hok _ hrow 3 (by decide) (by decide) hW 0 (Nat.zero_le _) e _ hrow4 (hP.ends (by decide)).1 _ w' h (by simp only [List.length_append, List.length_cons, List.length_nil] at hl ⊢; omega))
    have hne : ((e.length : Int) == 0) = false := beq_false_of_ne (by omega)
    clear hlay hstr hfl hem hen hl h0 hcl hrow hv hB hE hok hP
    go_enter Tryz.func22, Tryz.ntmps22
    go_wp2_with (fail)
    refine HLAY.out.mono ?_
    rintro e1 w1 ⟨rfl, rfl⟩
    go_wp2_with (fail)
    refine H1.out.mono ?_
    rintro e2 w2 ⟨m2, rfl, hB2⟩
    have HB2 := Lib.hid hB2
    clear hB2
    go_wp2_with (fail)
    refine (HEM.out _ HB2.out.below).mono ?_
    rintro e3 w3 ⟨rfl, rfl⟩
    go_upto_region 73 with (fail)
    go_region_with (first | (go_at_call 54; refine (HFL.out _ (HB2.out.drewN 1).below).mono ?_; rintro e4 w4 ⟨rfl, rfl⟩) | (go_at_call 58; refine (HEN.out _ (HB2.out.drewN 1).below).mono ?_; rintro e4 w4 ⟨rfl, rfl⟩) | (go_at_call 55; refine (HSTR.out _).mono ?_; rintro e4 w4 ⟨rfl, rfl⟩) | (go_at_call 57; refine (HWC.out _ (HB2.out.drewN 1)).mono ?_; rintro e6 w6 ⟨rfl, hB6⟩; have HB6 := Lib.hid hB6; clear hB6))
    all_goals
      go_wp2_with (fail)
      go_ret
      exact ⟨rfl, HB6.out⟩

set_option maxRecDepth 100000 in
set_option maxHeartbeats 4000000 in
theorem write_5_4 : WriteS 5 4 := by
  intro w0 eb b d s0 f e es kids v s w hE hv hok hP hW hB hl
  have hbt : wktT d (.mk 5 4 s0 f e es kids) = [77, 85, 76, 84, 73, 76, 73, 78, 69, 83, 84, 82, 73, 78, 71, 32, 90, 77, 32] ++ bodyT d (.mk 5 4 s0 f e es kids) := by
    rw [wktT_eq, layT_own 5 4 s0 f e es kids (Or.inl (by decide))]
    rfl
  rw [hbt] at hl ⊢
  rw [← List.append_assoc]
  have hbd : bodyT d (.mk 5 4 s0 f e es kids) = (if e.length = 0 then emptyT else ringsT 4 d f 0 e) := rfl
  have hS : (strideF 4).toNat = 4 := rfl
  rw [hS] at hP
  rw [hbd] at hl ⊢
  clear hbt hbd hS
  simp only [List.length_append] at hl
  have H1 := Lib.hid (header2 w0 b s [77, 85, 76, 84, 73, 76, 73, 78, 69, 83, 84, 82, 73, 78, 71, 32] [90, 77, 32] w hB (by simp only [List.length_append, List.length_cons, List.length_nil] at hl ⊢; omega))
  obtain ⟨gb, v3, v4, hve, hlt, hcl, hrow, hrow4⟩ := hv.rg_inv (by omega)
  rw [show ptrT 5 = 86 from rfl] at hve
  subst hve
  obtain ⟨A3, cap3, rfl, hl0, hl1, _⟩ := id hrow
  unfold maxLen at hl1
  obtain ⟨A4, cap4, rfl, hl40, hl41, _⟩ := id hrow4
  unfold maxLen at hl41
  have hlay : ∀ w', Below w0.heap.size w0 w' → Calls Tryz.prog 154 #[.pointer (some ⟨gb, 0, none⟩)] w' (Same (.int .i64 4) w') := fun w' h => layout154 gb 4 w' (hcl w' h).1
  have hml := fun w => meth_layout 5 (by decide) gb w
  rw [show ptrT 5 = 86 from rfl] at hml
  have ta67 := fun w => ta_no (T := 86) (U := 67) (by decide) (by decide) (by decide) gb w
  have ta70 := fun w => ta_no (T := 86) (U := 70) (by decide) (by decide) (by decide) gb w
  have ta73 := fun w => ta_no (T := 86) (U := 73) (by decide) (by decide) (by decide) gb w
  have ta76 := fun w => ta_no (T := 86) (U := 76) (by decide) (by decide) (by decide) gb w
  have ta80 := fun w => ta_no (T := 86) (U := 80) (by decide) (by decide) (by decide) gb w
  have ta86 := fun w => ta_yes (T := 86) (by decide) gb w
  have HLAY := Lib.hid (hlay w hB.below)
  have hstr := fun w => stride55at 4 4 (by decide) (by decide) rfl w
  have HSTR := Lib.hid hstr
  have hfl : ∀ w', Below w0.heap.size w0 w' → Calls Tryz.prog 54 #[.pointer (some ⟨gb, 0, none⟩)] w' (Same (.slice A3 f.length cap3) w') := fun w' h => flat54 gb _ w' (hcl w' h).2.1
  have HFL := Lib.hid hfl
  have hem : ∀ w', Below w0.heap.size w0 w' → Calls Tryz.prog 61 #[.pointer (some ⟨gb, 0, none⟩)] w' (Same (.int .i64 e.length) w') := fun w' h => num61 gb e.length cap4 A4 w' (hcl w' h).2.2
  have HEM := Lib.hid hem
  have hen : ∀ w', Below w0.heap.size w0 w' → Calls Tryz.prog 58 #[.pointer (some ⟨gb, 0, none⟩)] w' (Same (.slice A4 e.length cap4) w') := fun w' h => ends58 gb _ w' (hcl w' h).2.2
  have HEN := Lib.hid hen
  have HE0 := Lib.hid (fun w' (h : Bld w0 b (s ++ [77, 85, 76, 84, 73, 76, 73, 78, 69, 83, 84, 82, 73, 78, 71, 32, 90, 77, 32]) w') (h2 : s.length + 19 + 5 ≤ 140737488355328) => writeEmpty52 w0 b _ (.pointer (some ⟨eb, 0, none⟩)) w' h (by simp only [List.length_append, List.length_cons, List.length_nil]; omega))
  by_cases h0 : e.length = 0
  · rw [if_pos h0] at hl ⊢
    have hl5 : s.length + 19 + 5 ≤ 140737488355328 := by have h5 : emptyT.length = 5 := rfl; simp only [List.length_cons, List.length_nil, h5] at hl; omega
    have HEE := Lib.hid (fun w' h => HE0.out w' h hl5)
    rw [h0] at HEM
    clear hlay hstr hfl hem hen hl hl5 h0 hcl hrow hv hB hE hok hP
    go_enter Tryz.func22, Tryz.ntmps22
    go_wp2_with (fail)
    refine HLAY.out.mono ?_
    rintro e1 w1 ⟨rfl, rfl⟩
    go_wp2_with (fail)
    refine H1.out.mono ?_
    rintro e2 w2 ⟨m2, rfl, hB2⟩
    have HB2 := Lib.hid hB2
    clear hB2
    go_wp2_with (fail)
    refine (HEM.out _ HB2.out.below).mono ?_
    rintro e3 w3 ⟨rfl, rfl⟩
    go_wp2_with (fail)
    refine (HEE.out _ HB2.out).mono ?_
    rintro e4 w4 ⟨rfl, hB4⟩
    have HB4 := Lib.hid hB4
    clear hB4
    go_wp2_with (fail)
    go_ret
    exact ⟨rfl, HB4.out⟩
  · rw [if_neg h0] at hl ⊢
    have HWC := Lib.hid (fun w' (h : Bld w0 b (s ++ [77, 85, 76, 84, 73, 76, 73, 78, 69, 83, 84, 82, 73, 78, 71, 32, 90, 77, 32]) w') => writeFlat2_57 w0 eb b d hE f hok _ hrow 4 (by decide) (by decide) hW 0 (Nat.zero_le _) e _ hrow4 (hP.ends (by decide)).1 _ w' h (by simp only [List.length_append, List.length_cons, List.length_nil] at hl ⊢; omega))
    have hne : ((e.length : Int) == 0) = false := beq_false_of_ne (by omega)
    clear hlay hstr hfl hem hen hl h0 hcl hrow hv hB hE hok hP
    go_enter Tryz.func22, Tryz.ntmps22
    go_wp2_with (fail)
    refine HLAY.out.mono ?_
    rintro e1 w1 ⟨rfl, rfl⟩
    go_wp2_with (fail)
    refine H1.out.mono ?_
    rintro e2 w2 ⟨m2, rfl, hB2⟩
    have HB2 := Lib.hid hB2
    clear hB2
    go_wp2_with (fail)
    refine (HEM.out _ HB2.out.below).mono ?_
    rintro e3 w3 ⟨rfl, rfl⟩
    go_upto_region 73 with (fail)
    go_region_with (first | (go_at_call 54; refine (HFL.out _ (HB2.out.drewN 1).below).mono ?_; rintro e4 w4 ⟨rfl, rfl⟩) | (go_at_call 58; refine (HEN.out _ (HB2.out.drewN 1).below).mono ?_; rintro e4 w4 ⟨rfl, rfl⟩) | (go_at_call 55; refine (HSTR.out _).mono ?_; rintro e4 w4 ⟨rfl, rfl⟩) | (go_at_call 57; refine (HWC.out _ (HB2.out.drewN 1)).mono ?_; rintro e6 w6 ⟨rfl, hB6⟩; have HB6 := Lib.hid hB6; clear hB6))
    all_goals
      go_wp2_with (fail)
      go_ret
      exact ⟨rfl, HB6.out⟩

end Go.Proofs.YtokmamakmaojpaaGreatDoor

/-
  E61. The encoder: write, kind 1.
  E62. The encoder: write, kind 2.
-/
import Derived.Test.YtokmamakmaojpaaGreatDoorM21
import Derived.Deep.RegionWith
set_option linter.unusedVariables false
set_option linter.unusedSimpArgs false
/- E61. -/
namespace Go.Proofs.YtokmamakmaojpaaGreatDoor
open Go.RowKit

set_option maxRecDepth 100000 in
set_option maxHeartbeats 4000000 in
theorem write_1_1 : WriteS 1 1 := by
  intro w0 eb b d s0 f e es kids v s w hE hv hok hP hW hB hl
  have hbt : wktT d (.mk 1 1 s0 f e es kids) = [80, 79, 73, 78, 84, 32] ++ bodyT d (.mk 1 1 s0 f e es kids) := by
    rw [wktT_eq, layT_own 1 1 s0 f e es kids (Or.inl (by decide))]
    rfl
  rw [hbt] at hl ⊢
  rw [← List.append_assoc]
  have hbd : bodyT d (.mk 1 1 s0 f e es kids) = placesT 2 d f := rfl
  have hS : (strideF 1).toNat = 2 := rfl
  rw [hS] at hP
  rw [hbd] at hl ⊢
  clear hbt hbd hS
  simp only [List.length_append] at hl
  have H1 := Lib.hid (writeString50 w0 b s [80, 79, 73, 78, 84, 32] w hB (by simp only [List.length_append, List.length_cons, List.length_nil] at hl ⊢; omega))
  obtain ⟨gb, v3, hve, hlt, hcl, hrow⟩ := hv.pt_inv (by omega)
  rw [show ptrT 1 = 67 from rfl] at hve
  subst hve
  obtain ⟨A3, cap3, rfl, hl0, hl1, _⟩ := id hrow
  unfold maxLen at hl1
  have hlay : ∀ w', Below w0.heap.size w0 w' → Calls Tryz.prog 154 #[.pointer (some ⟨gb, 0, none⟩)] w' (Same (.int .i64 1) w') := fun w' h => layout154 gb 1 w' (hcl w' h).1
  have hml := fun w => meth_layout 1 (by decide) gb w
  rw [show ptrT 1 = 67 from rfl] at hml
  have ta67 := fun w => ta_yes (T := 67) (by decide) gb w
  have HLAY := Lib.hid (hlay w hB.below)
  have hstr := fun w => stride55at 1 2 (by decide) (by decide) rfl w
  have HSTR := Lib.hid hstr
  have hfl : ∀ w', Below w0.heap.size w0 w' → Calls Tryz.prog 54 #[.pointer (some ⟨gb, 0, none⟩)] w' (Same (.slice A3 f.length cap3) w') := fun w' h => flat54 gb _ w' (hcl w' h).2
  have HFL := Lib.hid hfl
  have hem : ∀ w', Below w0.heap.size w0 w' → Calls Tryz.prog 51 #[.pointer (some ⟨gb, 0, none⟩)] w' (Same (.bool (decide (f.length = 0))) w') := fun w' h => empty51 gb f.length cap3 A3 w' (hcl w' h).2 hW
  have HEM := Lib.hid hem
  have HE0 := Lib.hid (fun w' (h : Bld w0 b (s ++ [80, 79, 73, 78, 84, 32]) w') (h2 : s.length + 6 + 5 ≤ 140737488355328) => writeEmpty52 w0 b _ (.pointer (some ⟨eb, 0, none⟩)) w' h (by simp only [List.length_append, List.length_cons, List.length_nil]; omega))
  by_cases h0 : f.length = 0
  · rw [show placesT 2 d f = emptyT by unfold placesT; rw [if_pos h0]] at hl ⊢
    have hl5 : s.length + 6 + 5 ≤ 140737488355328 := by have h5 : emptyT.length = 5 := rfl; simp only [List.length_cons, List.length_nil, h5] at hl; omega
    have HEE := Lib.hid (fun w' h => HE0.out w' h hl5)
    rw [decide_eq_true h0] at HEM
    clear hlay hstr hfl hem hl hl5 h0 hcl hrow hv hB hE hok hP
    go_enter Tryz.func22, Tryz.ntmps22
    go_wp2_with (fail)
    refine HLAY.out.mono ?_
    rintro e1 w1 ⟨rfl, rfl⟩
    go_wp2_with (fail)
    refine H1.out.mono ?_
    rintro e2 w2 ⟨m2, rfl, hB2⟩
    have HB2 := Lib.hid hB2
    clear hB2
    go_wp2_with (fail)
    refine (HEM.out _ HB2.out.below).mono ?_
    rintro e3 w3 ⟨rfl, rfl⟩
    go_wp2_with (fail)
    refine (HEE.out _ HB2.out).mono ?_
    rintro e4 w4 ⟨rfl, hB4⟩
    have HB4 := Lib.hid hB4
    clear hB4
    go_wp2_with (fail)
    go_ret
    exact ⟨rfl, HB4.out⟩
  · rw [show placesT 2 d f = inBr (numsU 2 d f f.length) by unfold placesT; rw [if_neg h0]] at hl ⊢
    have hfs : f.length = 2 := by have h1 := hP.mod; have h2 := hP.point rfl; omega
    rw [hfs] at hl ⊢
    have HWC := Lib.hid (fun w' (h : Bld w0 b (s ++ [80, 79, 73, 78, 84, 32]) w') => writeFlat0_53 w0 eb b d hE f hok _ hrow 2 hfs _ w' h (by simp only [List.length_append, List.length_cons, List.length_nil] at hl ⊢; omega))
    rw [decide_eq_false h0] at HEM
    clear hlay hstr hfl hem hl h0 hcl hrow hv hB hE hok hP hfs
    go_enter Tryz.func22, Tryz.ntmps22
    go_wp2_with (fail)
    refine HLAY.out.mono ?_
    rintro e1 w1 ⟨rfl, rfl⟩
    go_wp2_with (fail)
    refine H1.out.mono ?_
    rintro e2 w2 ⟨m2, rfl, hB2⟩
    have HB2 := Lib.hid hB2
    clear hB2
    go_wp2_with (fail)
    refine (HEM.out _ HB2.out.below).mono ?_
    rintro e3 w3 ⟨rfl, rfl⟩
    go_wp2_with (fail)
    refine (HFL.out _ HB2.out.below).mono ?_
    rintro e4 w4 ⟨rfl, rfl⟩
    go_wp2_with (fail)
    refine (HSTR.out _).mono ?_
    rintro e5 w5 ⟨rfl, rfl⟩
    go_wp2_with (fail)
    refine (HWC.out _ HB2.out).mono ?_
    rintro e6 w6 ⟨rfl, hB6⟩
    have HB6 := Lib.hid hB6
    clear hB6
    go_wp2_with (fail)
    go_ret
    exact ⟨rfl, HB6.out⟩

set_option maxRecDepth 100000 in
set_option maxHeartbeats 4000000 in
theorem write_1_2 : WriteS 1 2 := by
  intro w0 eb b d s0 f e es kids v s w hE hv hok hP hW hB hl
  have hbt : wktT d (.mk 1 2 s0 f e es kids) = [80, 79, 73, 78, 84, 32, 90, 32] ++ bodyT d (.mk 1 2 s0 f e es kids) := by
    rw [wktT_eq, layT_own 1 2 s0 f e es kids (Or.inl (by decide))]
    rfl
  rw [hbt] at hl ⊢
  rw [← List.append_assoc]
  have hbd : bodyT d (.mk 1 2 s0 f e es kids) = placesT 3 d f := rfl
  have hS : (strideF 2).toNat = 3 := rfl
  rw [hS] at hP
  rw [hbd] at hl ⊢
  clear hbt hbd hS
  simp only [List.length_append] at hl
  have H1 := Lib.hid (header2 w0 b s [80, 79, 73, 78, 84, 32] [90, 32] w hB (by simp only [List.length_append, List.length_cons, List.length_nil] at hl ⊢; omega))
  obtain ⟨gb, v3, hve, hlt, hcl, hrow⟩ := hv.pt_inv (by omega)
  rw [show ptrT 1 = 67 from rfl] at hve
  subst hve
  obtain ⟨A3, cap3, rfl, hl0, hl1, _⟩ := id hrow
  unfold maxLen at hl1
  have hlay : ∀ w', Below w0.heap.size w0 w' → Calls Tryz.prog 154 #[.pointer (some ⟨gb, 0, none⟩)] w' (Same (.int .i64 2) w') := fun w' h => layout154 gb 2 w' (hcl w' h).1
  have hml := fun w => meth_layout 1 (by decide) gb w
  rw [show ptrT 1 = 67 from rfl] at hml
  have ta67 := fun w => ta_yes (T := 67) (by decide) gb w
  have HLAY := Lib.hid (hlay w hB.below)
  have hstr := fun w => stride55at 2 3 (by decide) (by decide) rfl w
  have HSTR := Lib.hid hstr
  have hfl : ∀ w', Below w0.heap.size w0 w' → Calls Tryz.prog 54 #[.pointer (some ⟨gb, 0, none⟩)] w' (Same (.slice A3 f.length cap3) w') := fun w' h => flat54 gb _ w' (hcl w' h).2
  have HFL := Lib.hid hfl
  have hem : ∀ w', Below w0.heap.size w0 w' → Calls Tryz.prog 51 #[.pointer (some ⟨gb, 0, none⟩)] w' (Same (.bool (decide (f.length = 0))) w') := fun w' h => empty51 gb f.length cap3 A3 w' (hcl w' h).2 hW
  have HEM := Lib.hid hem
  have HE0 := Lib.hid (fun w' (h : Bld w0 b (s ++ [80, 79, 73, 78, 84, 32, 90, 32]) w') (h2 : s.length + 8 + 5 ≤ 140737488355328) => writeEmpty52 w0 b _ (.pointer (some ⟨eb, 0, none⟩)) w' h (by simp only [List.length_append, List.length_cons, List.length_nil]; omega))
  by_cases h0 : f.length = 0
  · rw [show placesT 3 d f = emptyT by unfold placesT; rw [if_pos h0]] at hl ⊢
    have hl5 : s.length + 8 + 5 ≤ 140737488355328 := by have h5 : emptyT.length = 5 := rfl; simp only [List.length_cons, List.length_nil, h5] at hl; omega
    have HEE := Lib.hid (fun w' h => HE0.out w' h hl5)
    rw [decide_eq_true h0] at HEM
    clear hlay hstr hfl hem hl hl5 h0 hcl hrow hv hB hE hok hP
    go_enter Tryz.func22, Tryz.ntmps22
    go_wp2_with (fail)
    refine HLAY.out.mono ?_
    rintro e1 w1 ⟨rfl, rfl⟩
    go_wp2_with (fail)
    refine H1.out.mono ?_
    rintro e2 w2 ⟨m2, rfl, hB2⟩
    have HB2 := Lib.hid hB2
    clear hB2
    go_wp2_with (fail)
    refine (HEM.out _ HB2.out.below).mono ?_
    rintro e3 w3 ⟨rfl, rfl⟩
    go_wp2_with (fail)
    refine (HEE.out _ HB2.out).mono ?_
    rintro e4 w4 ⟨rfl, hB4⟩
    have HB4 := Lib.hid hB4
    clear hB4
    go_wp2_with (fail)
    go_ret
    exact ⟨rfl, HB4.out⟩
  · rw [show placesT 3 d f = inBr (numsU 3 d f f.length) by unfold placesT; rw [if_neg h0]] at hl ⊢
    have hfs : f.length = 3 := by have h1 := hP.mod; have h2 := hP.point rfl; omega
    rw [hfs] at hl ⊢
    have HWC := Lib.hid (fun w' (h : Bld w0 b (s ++ [80, 79, 73, 78, 84, 32, 90, 32]) w') => writeFlat0_53 w0 eb b d hE f hok _ hrow 3 hfs _ w' h (by simp only [List.length_append, List.length_cons, List.length_nil] at hl ⊢; omega))
    rw [decide_eq_false h0] at HEM
    clear hlay hstr hfl hem hl h0 hcl hrow hv hB hE hok hP hfs
    go_enter Tryz.func22, Tryz.ntmps22
    go_wp2_with (fail)
    refine HLAY.out.mono ?_
    rintro e1 w1 ⟨rfl, rfl⟩
    go_wp2_with (fail)
    refine H1.out.mono ?_
    rintro e2 w2 ⟨m2, rfl, hB2⟩
    have HB2 := Lib.hid hB2
    clear hB2
    go_wp2_with (fail)
    refine (HEM.out _ HB2.out.below).mono ?_
    rintro e3 w3 ⟨rfl, rfl⟩
    go_wp2_with (fail)
    refine (HFL.out _ HB2.out.below).mono ?_
    rintro e4 w4 ⟨rfl, rfl⟩
    go_wp2_with (fail)
    refine (HSTR.out _).mono ?_
    rintro e5 w5 ⟨rfl, rfl⟩
    go_wp2_with (fail)
    refine (HWC.out _ HB2.out).mono ?_
    rintro e6 w6 ⟨rfl, hB6⟩
    have HB6 := Lib.hid hB6
    clear hB6
    go_wp2_with (fail)
    go_ret
    exact ⟨rfl, HB6.out⟩

set_option maxRecDepth 100000 in
set_option maxHeartbeats 4000000 in
theorem write_1_3 : WriteS 1 3 := by
  intro w0 eb b d s0 f e es kids v s w hE hv hok hP hW hB hl
  have hbt : wktT d (.mk 1 3 s0 f e es kids) = [80, 79, 73, 78, 84, 32, 77, 32] ++ bodyT d (.mk 1 3 s0 f e es kids) := by
    rw [wktT_eq, layT_own 1 3 s0 f e es kids (Or.inl (by decide))]
    rfl
  rw [hbt] at hl ⊢
  rw [← List.append_assoc]
  have hbd : bodyT d (.mk 1 3 s0 f e es kids) = placesT 3 d f := rfl
  have hS : (strideF 3).toNat = 3 := rfl
  rw [hS] at hP
  rw [hbd] at hl ⊢
  clear hbt hbd hS
  simp only [List.length_append] at hl
  have H1 := Lib.hid (header2 w0 b s [80, 79, 73, 78, 84, 32] [77, 32] w hB (by simp only [List.length_append, List.length_cons, List.length_nil] at hl ⊢; omega))
  obtain ⟨gb, v3, hve, hlt, hcl, hrow⟩ := hv.pt_inv (by omega)
  rw [show ptrT 1 = 67 from rfl] at hve
  subst hve
  obtain ⟨A3, cap3, rfl, hl0, hl1, _⟩ := id hrow
  unfold maxLen at hl1
  have hlay : ∀ w', Below w0.heap.size w0 w' → Calls Tryz.prog 154 #[.pointer (some ⟨gb, 0, none⟩)] w' (Same (.int .i64 3) w') := fun w' h => layout154 gb 3 w' (hcl w' h).1
  have hml := fun w => meth_layout 1 (by decide) gb w
  rw [show ptrT 1 = 67 from rfl] at hml
  have ta67 := fun w => ta_yes (T := 67) (by decide) gb w
  have HLAY := Lib.hid (hlay w hB.below)
  have hstr := fun w => stride55at 3 3 (by decide) (by decide) rfl w
  have HSTR := Lib.hid hstr
  have hfl : ∀ w', Below w0.heap.size w0 w' → Calls Tryz.prog 54 #[.pointer (some ⟨gb, 0, none⟩)] w' (Same (.slice A3 f.length cap3) w') := fun w' h => flat54 gb _ w' (hcl w' h).2
  have HFL := Lib.hid hfl
  have hem : ∀ w', Below w0.heap.size w0 w' → Calls Tryz.prog 51 #[.pointer (some ⟨gb, 0, none⟩)] w' (Same (.bool (decide (f.length = 0))) w') := fun w' h => empty51 gb f.length cap3 A3 w' (hcl w' h).2 hW
  have HEM := Lib.hid hem
  have HE0 := Lib.hid (fun w' (h : Bld w0 b (s ++ [80, 79, 73, 78, 84, 32, 77, 32]) w') (h2 : s.length + 8 + 5 ≤ 140737488355328) => writeEmpty52 w0 b _ (.pointer (some ⟨eb, 0, none⟩)) w' h (by simp only [List.length_append, List.length_cons, List.length_nil]; omega))
  by_cases h0 : f.length = 0
  · rw [show placesT 3 d f = emptyT by unfold placesT; rw [if_pos h0]] at hl ⊢
    have hl5 : s.length + 8 + 5 ≤ 140737488355328 := by have h5 : emptyT.length = 5 := rfl; simp only [List.length_cons, List.length_nil, h5] at hl; omega
    have HEE := Lib.hid (fun w' h => HE0.out w' h hl5)
    rw [decide_eq_true h0] at HEM
    clear hlay hstr hfl hem hl hl5 h0 hcl hrow hv hB hE hok hP
    go_enter Tryz.func22, Tryz.ntmps22
    go_wp2_with (fail)
    refine HLAY.out.mono ?_
    rintro e1 w1 ⟨rfl, rfl⟩
    go_wp2_with (fail)
    refine H1.out.mono ?_
    rintro e2 w2 ⟨m2, rfl, hB2⟩
    have HB2 := Lib.hid hB2
    clear hB2
    go_wp2_with (fail)
    refine (HEM.out _ HB2.out.below).mono ?_
    rintro e3 w3 ⟨rfl, rfl⟩
    go_wp2_with (fail)
    refine (HEE.out _ HB2.out).mono ?_
    rintro e4 w4 ⟨rfl, hB4⟩
    have HB4 := Lib.hid hB4
    clear hB4
    go_wp2_with (fail)
    go_ret
    exact ⟨rfl, HB4.out⟩
  · rw [show placesT 3 d f = inBr (numsU 3 d f f.length) by unfold placesT; rw [if_neg h0]] at hl ⊢
    have hfs : f.length = 3 := by have h1 := hP.mod; have h2 := hP.point rfl; omega
    rw [hfs] at hl ⊢
    have HWC := Lib.hid (fun w' (h : Bld w0 b (s ++ [80, 79, 73, 78, 84, 32, 77, 32]) w') => writeFlat0_53 w0 eb b d hE f hok _ hrow 3 hfs _ w' h (by simp only [List.length_append, List.length_cons, List.length_nil] at hl ⊢; omega))
    rw [decide_eq_false h0] at HEM
    clear hlay hstr hfl hem hl h0 hcl hrow hv hB hE hok hP hfs
    go_enter Tryz.func22, Tryz.ntmps22
    go_wp2_with (fail)
    refine HLAY.out.mono ?_
    rintro e1 w1 ⟨rfl, rfl⟩
    go_wp2_with (fail)
    refine H1.out.mono ?_
    rintro e2 w2 ⟨m2, rfl, hB2⟩
    have HB2 := Lib.hid hB2
    clear hB2
    go_wp2_with (fail)
    refine (HEM.out _ HB2.out.below).mono ?_
    rintro e3 w3 ⟨rfl, rfl⟩
    go_wp2_with (fail)
    refine (HFL.out _ HB2.out.below).mono ?_
    rintro e4 w4 ⟨rfl, rfl⟩
    go_wp2_with (fail)
    refine (HSTR.out _).mono ?_
    rintro e5 w5 ⟨rfl, rfl⟩
    go_wp2_with (fail)
    refine (HWC.out _ HB2.out).mono ?_
    rintro e6 w6 ⟨rfl, hB6⟩
    have HB6 := Lib.hid hB6
    clear hB6
    go_wp2_with (fail)
    go_ret
    exact ⟨rfl, HB6.out⟩

set_option maxRecDepth 100000 in
set_option maxHeartbeats 4000000 in
theorem write_1_4 : WriteS 1 4 := by
  intro w0 eb b d s0 f e es kids v s w hE hv hok hP hW hB hl
  have hbt : wktT d (.mk 1 4 s0 f e es kids) = [80, 79, 73, 78, 84, 32, 90, 77, 32] ++ bodyT d (.mk 1 4 s0 f e es kids) := by
    rw [wktT_eq, layT_own 1 4 s0 f e es kids (Or.inl (by decide))]
    rfl
  rw [hbt] at hl ⊢
  rw [← List.append_assoc]
  have hbd : bodyT d (.mk 1 4 s0 f e es kids) = placesT 4 d f := rfl
  have hS : (strideF 4).toNat = 4 := rfl
  rw [hS] at hP
  rw [hbd] at hl ⊢
  clear hbt hbd hS
  simp only [List.length_append] at hl
  have H1 := Lib.hid (header2 w0 b s [80, 79, 73, 78, 84, 32] [90, 77, 32] w hB (by simp only [List.length_append, List.length_cons, List.length_nil] at hl ⊢; omega))
  obtain ⟨gb, v3, hve, hlt, hcl, hrow⟩ := hv.pt_inv (by omega)
  rw [show ptrT 1 = 67 from rfl] at hve
  subst hve
  obtain ⟨A3, cap3, rfl, hl0, hl1, _⟩ := id hrow
  unfold maxLen at hl1
  have hlay : ∀ w', Below w0.heap.size w0 w' → Calls Tryz.prog 154 #[.pointer (some ⟨gb, 0, none⟩)] w' (Same (.int .i64 4) w') := fun w' h => layout154 gb 4 w' (hcl w' h).1
  have hml := fun w => meth_layout 1 (by decide) gb w
  rw [show ptrT 1 = 67 from rfl] at hml
  have ta67 := fun w => ta_yes (T := 67) (by decide) gb w
  have HLAY := Lib.hid (hlay w hB.below)
  have hstr := fun w => stride55at 4 4 (by decide) (by decide) rfl w
  have HSTR := Lib.hid hstr
  have hfl : ∀ w', Below w0.heap.size w0 w' → Calls Tryz.prog 54 #[.pointer (some ⟨gb, 0, none⟩)] w' (Same (.slice A3 f.length cap3) w') := fun w' h => flat54 gb _ w' (hcl w' h).2
  have HFL := Lib.hid hfl
  have hem : ∀ w', Below w0.heap.size w0 w' → Calls Tryz.prog 51 #[.pointer (some ⟨gb, 0, none⟩)] w' (Same (.bool (decide (f.length = 0))) w') := fun w' h => empty51 gb f.length cap3 A3 w' (hcl w' h).2 hW
  have HEM := Lib.hid hem
  have HE0 := Lib.hid (fun w' (h : Bld w0 b (s ++ [80, 79, 73, 78, 84, 32, 90, 77, 32]) w') (h2 : s.length + 9 + 5 ≤ 140737488355328) => writeEmpty52 w0 b _ (.pointer (some ⟨eb, 0, none⟩)) w' h (by simp only [List.length_append, List.length_cons, List.length_nil]; omega))
  by_cases h0 : f.length = 0
  · rw [show placesT 4 d f = emptyT by unfold placesT; rw [if_pos h0]] at hl ⊢
    have hl5 : s.length + 9 + 5 ≤ 140737488355328 := by have h5 : emptyT.length = 5 := rfl; simp only [List.length_cons, List.length_nil, h5] at hl; omega
    have HEE := Lib.hid (fun w' h => HE0.out w' h hl5)
    rw [decide_eq_true h0] at HEM
    clear hlay hstr hfl hem hl hl5 h0 hcl hrow hv hB hE hok hP
    go_enter Tryz.func22, Tryz.ntmps22
    go_wp2_with (fail)
    refine HLAY.out.mono ?_
    rintro e1 w1 ⟨rfl, rfl⟩
    go_wp2_with (fail)
    refine H1.out.mono ?_
    rintro e2 w2 ⟨m2, rfl, hB2⟩
    have HB2 := Lib.hid hB2
    clear hB2
    go_wp2_with (fail)
    refine (HEM.out _ HB2.out.below).mono ?_
    rintro e3 w3 ⟨rfl, rfl⟩
    go_wp2_with (fail)
    refine (HEE.out _ HB2.out).mono ?_
    rintro e4 w4 ⟨rfl, hB4⟩
    have HB4 := Lib.hid hB4
    clear hB4
    go_wp2_with (fail)
    go_ret
    exact ⟨rfl, HB4.out⟩
  · rw [show placesT 4 d f = inBr (numsU 4 d f f.length) by unfold placesT; rw [if_neg h0]] at hl ⊢
    have hfs : f.length = 4 := by have h1 := hP.mod; have h2 := hP.point rfl; omega
    rw [hfs] at hl ⊢
    have HWC := Lib.hid (fun w' (h : Bld w0 b (s ++ [80, 79, 73, 78, 84, 32, 90, 77, 32]) w') => writeFlat0_53 w0 eb b d hE f hok _ hrow 4 hfs _ w' h (by simp only [List.length_append, List.length_cons, List.length_nil] at hl ⊢; omega))
    rw [decide_eq_false h0] at HEM
    clear hlay hstr hfl hem hl h0 hcl hrow hv hB hE hok hP hfs
    go_enter Tryz.func22, Tryz.ntmps22
    go_wp2_with (fail)
    refine HLAY.out.mono ?_
    rintro e1 w1 ⟨rfl, rfl⟩
    go_wp2_with (fail)
    refine H1.out.mono ?_
    rintro e2 w2 ⟨m2, rfl, hB2⟩
    have HB2 := Lib.hid hB2
    clear hB2
    go_wp2_with (fail)
    refine (HEM.out _ HB2.out.below).mono ?_
    rintro e3 w3 ⟨rfl, rfl⟩
    go_wp2_with (fail)
    refine (HFL.out _ HB2.out.below).mono ?_
    rintro e4 w4 ⟨rfl, rfl⟩
    go_wp2_with (fail)
    refine (HSTR.out _).mono ?_
    rintro e5 w5 ⟨rfl, rfl⟩
    go_wp2_with (fail)
    refine (HWC.out _ HB2.out).mono ?_
    rintro e6 w6 ⟨rfl, hB6⟩
    have HB6 := Lib.hid hB6
    clear hB6
    go_wp2_with (fail)
    go_ret
    exact ⟨rfl, HB6.out⟩

end Go.Proofs.YtokmamakmaojpaaGreatDoor

/- E62. -/
namespace Go.Proofs.YtokmamakmaojpaaGreatDoor
open Go.RowKit

set_option maxRecDepth 100000 in
set_option maxHeartbeats 4000000 in
theorem write_2_1 : WriteS 2 1 := by
  intro w0 eb b d s0 f e es kids v s w hE hv hok hP hW hB hl
  have hbt : wktT d (.mk 2 1 s0 f e es kids) = [76, 73, 78, 69, 83, 84, 82, 73, 78, 71, 32] ++ bodyT d (.mk 2 1 s0 f e es kids) := by
    rw [wktT_eq, layT_own 2 1 s0 f e es kids (Or.inl (by decide))]
    rfl
  rw [hbt] at hl ⊢
  rw [← List.append_assoc]
  have hbd : bodyT d (.mk 2 1 s0 f e es kids) = placesT 2 d f := rfl
  have hS : (strideF 1).toNat = 2 := rfl
  rw [hS] at hP
  rw [hbd] at hl ⊢
  clear hbt hbd hS
  simp only [List.length_append] at hl
  have H1 := Lib.hid (writeString50 w0 b s [76, 73, 78, 69, 83, 84, 82, 73, 78, 71, 32] w hB (by simp only [List.length_append, List.length_cons, List.length_nil] at hl ⊢; omega))
  obtain ⟨gb, v3, hve, hlt, hcl, hrow⟩ := hv.pt_inv (by omega)
  rw [show ptrT 2 = 70 from rfl] at hve
  subst hve
  obtain ⟨A3, cap3, rfl, hl0, hl1, _⟩ := id hrow
  unfold maxLen at hl1
  have hlay : ∀ w', Below w0.heap.size w0 w' → Calls Tryz.prog 154 #[.pointer (some ⟨gb, 0, none⟩)] w' (Same (.int .i64 1) w') := fun w' h => layout154 gb 1 w' (hcl w' h).1
  have hml := fun w => meth_layout 2 (by decide) gb w
  rw [show ptrT 2 = 70 from rfl] at hml
  have ta67 := fun w => ta_no (T := 70) (U := 67) (by decide) (by decide) (by decide) gb w
  have ta70 := fun w => ta_yes (T := 70) (by decide) gb w
  have ta73 := fun w => ta_no (T := 70) (U := 73) (by decide) (by decide) (by decide) gb w
  have HLAY := Lib.hid (hlay w hB.below)
  have hstr := fun w => stride55at 1 2 (by decide) (by decide) rfl w
  have HSTR := Lib.hid hstr
  have hfl : ∀ w', Below w0.heap.size w0 w' → Calls Tryz.prog 54 #[.pointer (some ⟨gb, 0, none⟩)] w' (Same (.slice A3 f.length cap3) w') := fun w' h => flat54 gb _ w' (hcl w' h).2
  have HFL := Lib.hid hfl
  have hem : ∀ w', Below w0.heap.size w0 w' → Calls Tryz.prog 51 #[.pointer (some ⟨gb, 0, none⟩)] w' (Same (.bool (decide (f.length = 0))) w') := fun w' h => empty51 gb f.length cap3 A3 w' (hcl w' h).2 hW
  have HEM := Lib.hid hem
  have HE0 := Lib.hid (fun w' (h : Bld w0 b (s ++ [76, 73, 78, 69, 83, 84, 82, 73, 78, 71, 32]) w') (h2 : s.length + 11 + 5 ≤ 140737488355328) => writeEmpty52 w0 b _ (.pointer (some ⟨eb, 0, none⟩)) w' h (by simp only [List.length_append, List.length_cons, List.length_nil]; omega))
  by_cases h0 : f.length = 0
  · rw [show placesT 2 d f = emptyT by unfold placesT; rw [if_pos h0]] at hl ⊢
    have hl5 : s.length + 11 + 5 ≤ 140737488355328 := by have h5 : emptyT.length = 5 := rfl; simp only [List.length_cons, List.length_nil, h5] at hl; omega
    have HEE := Lib.hid (fun w' h => HE0.out w' h hl5)
    rw [decide_eq_true h0] at HEM
    clear hlay hstr hfl hem hl hl5 h0 hcl hrow hv hB hE hok hP
    go_enter Tryz.func22, Tryz.ntmps22
    go_wp2_with (fail)
    refine HLAY.out.mono ?_
    rintro e1 w1 ⟨rfl, rfl⟩
    go_wp2_with (fail)
    refine H1.out.mono ?_
    rintro e2 w2 ⟨m2, rfl, hB2⟩
    have HB2 := Lib.hid hB2
    clear hB2
    go_wp2_with (fail)
    refine (HEM.out _ HB2.out.below).mono ?_
    rintro e3 w3 ⟨rfl, rfl⟩
    go_wp2_with (fail)
    refine (HEE.out _ HB2.out).mono ?_
    rintro e4 w4 ⟨rfl, hB4⟩
    have HB4 := Lib.hid hB4
    clear hB4
    go_wp2_with (fail)
    go_ret
    exact ⟨rfl, HB4.out⟩
  · rw [show placesT 2 d f = inBr (numsU 2 d f f.length) by unfold placesT; rw [if_neg h0]] at hl ⊢
    have HWC := Lib.hid (fun w' (h : Bld w0 b (s ++ [76, 73, 78, 69, 83, 84, 82, 73, 78, 71, 32]) w') => writeFlat1_56 w0 eb b d hE f hok _ hrow 2 (by decide) (by decide) hP.mod hW _ w' h (by simp only [List.length_append, List.length_cons, List.length_nil] at hl ⊢; omega))
    rw [decide_eq_false h0] at HEM
    clear hlay hstr hfl hem hl h0 hcl hrow hv hB hE hok hP
    go_enter Tryz.func22, Tryz.ntmps22
    go_wp2_with (fail)
    refine HLAY.out.mono ?_
    rintro e1 w1 ⟨rfl, rfl⟩
    go_wp2_with (fail)
    refine H1.out.mono ?_
    rintro e2 w2 ⟨m2, rfl, hB2⟩
    have HB2 := Lib.hid hB2
    clear hB2
    go_wp2_with (fail)
    refine (HEM.out _ HB2.out.below).mono ?_
    rintro e3 w3 ⟨rfl, rfl⟩
    go_wp2_with (fail)
    refine (HFL.out _ HB2.out.below).mono ?_
    rintro e4 w4 ⟨rfl, rfl⟩
    go_wp2_with (fail)
    refine (HSTR.out _).mono ?_
    rintro e5 w5 ⟨rfl, rfl⟩
    go_wp2_with (fail)
    refine (HWC.out _ HB2.out).mono ?_
    rintro e6 w6 ⟨rfl, hB6⟩
    have HB6 := Lib.hid hB6
    clear hB6
    go_wp2_with (fail)
    go_ret
    exact ⟨rfl, HB6.out⟩

set_option maxRecDepth 100000 in
set_option maxHeartbeats 4000000 in
theorem write_2_2 : WriteS 2 2 := by
  intro w0 eb b d s0 f e es kids v s w hE hv hok hP hW hB hl
  have hbt : wktT d (.mk 2 2 s0 f e es kids) = [76, 73, 78, 69, 83, 84, 82, 73, 78, 71, 32, 90, 32] ++ bodyT d (.mk 2 2 s0 f e es kids) := by
    rw [wktT_eq, layT_own 2 2 s0 f e es kids (Or.inl (by decide))]
    rfl
  rw [hbt] at hl ⊢
  rw [← List.append_assoc]
  have hbd : bodyT d (.mk 2 2 s0 f e es kids) = placesT 3 d f := rfl
  have hS : (strideF 2).toNat = 3 := rfl
  rw [hS] at hP
  rw [hbd] at hl ⊢
  clear hbt hbd hS
  simp only [List.length_append] at hl
  have H1 := Lib.hid (header2 w0 b s [76, 73, 78, 69, 83, 84, 82, 73, 78, 71, 32] [90, 32] w hB (by simp only [List.length_append, List.length_cons, List.length_nil] at hl ⊢; omega))
  obtain ⟨gb, v3, hve, hlt, hcl, hrow⟩ := hv.pt_inv (by omega)
  rw [show ptrT 2 = 70 from rfl] at hve
  subst hve
  obtain ⟨A3, cap3, rfl, hl0, hl1, _⟩ := id hrow
  unfold maxLen at hl1
  have hlay : ∀ w', Below w0.heap.size w0 w' → Calls Tryz.prog 154 #[.pointer (some ⟨gb, 0, none⟩)] w' (Same (.int .i64 2) w') := fun w' h => layout154 gb 2 w' (hcl w' h).1
  have hml := fun w => meth_layout 2 (by decide) gb w
  rw [show ptrT 2 = 70 from rfl] at hml
  have ta67 := fun w => ta_no (T := 70) (U := 67) (by decide) (by decide) (by decide) gb w
  have ta70 := fun w => ta_yes (T := 70) (by decide) gb w
  have ta73 := fun w => ta_no (T := 70) (U := 73) (by decide) (by decide) (by decide) gb w
  have HLAY := Lib.hid (hlay w hB.below)
  have hstr := fun w => stride55at 2 3 (by decide) (by decide) rfl w
  have HSTR := Lib.hid hstr
  have hfl : ∀ w', Below w0.heap.size w0 w' → Calls Tryz.prog 54 #[.pointer (some ⟨gb, 0, none⟩)] w' (Same (.slice A3 f.length cap3) w') := fun w' h => flat54 gb _ w' (hcl w' h).2
  have HFL := Lib.hid hfl
  have hem : ∀ w', Below w0.heap.size w0 w' → Calls Tryz.prog 51 #[.pointer (some ⟨gb, 0, none⟩)] w' (Same (.bool (decide (f.length = 0))) w') := fun w' h => empty51 gb f.length cap3 A3 w' (hcl w' h).2 hW
  have HEM := Lib.hid hem
  have HE0 := Lib.hid (fun w' (h : Bld w0 b (s ++ [76, 73, 78, 69, 83, 84, 82, 73, 78, 71, 32, 90, 32]) w') (h2 : s.length + 13 + 5 ≤ 140737488355328) => writeEmpty52 w0 b _ (.pointer (some ⟨eb, 0, none⟩)) w' h (by simp only [List.length_append, List.length_cons, List.length_nil]; omega))
  by_cases h0 : f.length = 0
  · rw [show placesT 3 d f = emptyT by unfold placesT; rw [if_pos h0]] at hl ⊢
    have hl5 : s.length + 13 + 5 ≤ 140737488355328 := by have h5 : emptyT.length = 5 := rfl; simp only [List.length_cons, List.length_nil, h5] at hl; omega
    have HEE := Lib.hid (fun w' h => HE0.out w' h hl5)
    rw [decide_eq_true h0] at HEM
    clear hlay hstr hfl hem hl hl5 h0 hcl hrow hv hB hE hok hP
    go_enter Tryz.func22, Tryz.ntmps22
    go_wp2_with (fail)
    refine HLAY.out.mono ?_
    rintro e1 w1 ⟨rfl, rfl⟩
    go_wp2_with (fail)
    refine H1.out.mono ?_
    rintro e2 w2 ⟨m2, rfl, hB2⟩
    have HB2 := Lib.hid hB2
    clear hB2
    go_wp2_with (fail)
    refine (HEM.out _ HB2.out.below).mono ?_
    rintro e3 w3 ⟨rfl, rfl⟩
    go_wp2_with (fail)
    refine (HEE.out _ HB2.out).mono ?_
    rintro e4 w4 ⟨rfl, hB4⟩
    have HB4 := Lib.hid hB4
    clear hB4
    go_wp2_with (fail)
    go_ret
    exact ⟨rfl, HB4.out⟩
  · rw [show placesT 3 d f = inBr (numsU 3 d f f.length) by unfold placesT; rw [if_neg h0]] at hl ⊢
    have HWC := Lib.hid (fun w' (h : Bld w0 b (s ++ [76, 73, 78, 69, 83, 84, 82, 73, 78, 71, 32, 90, 32]) w') => writeFlat1_56 w0 eb b d hE f hok _ hrow 3 (by decide) (by decide) hP.mod hW _ w' h (by simp only [List.length_append, List.length_cons, List.length_nil] at hl ⊢; omega))
    rw [decide_eq_false h0] at HEM
    clear hlay hstr hfl hem hl h0 hcl hrow hv hB hE hok hP
    go_enter Tryz.func22, Tryz.ntmps22
    go_wp2_with (fail)
    refine HLAY.out.mono ?_
    rintro e1 w1 ⟨rfl, rfl⟩
    go_wp2_with (fail)
    refine H1.out.mono ?_
    rintro e2 w2 ⟨m2, rfl, hB2⟩
    have HB2 := Lib.hid hB2
    clear hB2
    go_wp2_with (fail)
    refine (HEM.out _ HB2.out.below).mono ?_
    rintro e3 w3 ⟨rfl, rfl⟩
    go_wp2_with (fail)
    refine (HFL.out _ HB2.out.below).mono ?_
    rintro e4 w4 ⟨rfl, rfl⟩
    go_wp2_with (fail)
    refine (HSTR.out _).mono ?_
    rintro e5 w5 ⟨rfl, rfl⟩
    go_wp2_with (fail)
    refine (HWC.out _ HB2.out).mono ?_
    rintro e6 w6 ⟨rfl, hB6⟩
    have HB6 := Lib.hid hB6
    clear hB6
    go_wp2_with (fail)
    go_ret
    exact ⟨rfl, HB6.out⟩

set_option maxRecDepth 100000 in
set_option maxHeartbeats 4000000 in
theorem write_2_3 : WriteS 2 3 := by
  intro w0 eb b d s0 f e es kids v s w hE hv hok hP hW hB hl
  have hbt : wktT d (.mk 2 3 s0 f e es kids) = [76, 73, 78, 69, 83, 84, 82, 73, 78, 71, 32, 77, 32] ++ bodyT d (.mk 2 3 s0 f e es kids) := by
    rw [wktT_eq, layT_own 2 3 s0 f e es kids (Or.inl (by decide))]
    rfl
  rw [hbt] at hl ⊢
  rw [← List.append_assoc]
  have hbd : bodyT d (.mk 2 3 s0 f e es kids) = placesT 3 d f := rfl
  have hS : (strideF 3).toNat = 3 := rfl
  rw [hS] at hP
  rw [hbd] at hl ⊢
  clear hbt hbd hS
  simp only [List.length_append] at hl
  have H1 := Lib.hid (header2 w0 b s [76, 73, 78, 69, 83, 84, 82, 73, 78, 71, 32] [77, 32] w hB (by simp only [List.length_append, List.length_cons, List.length_nil] at hl ⊢; omega))
  obtain ⟨gb, v3, hve, hlt, hcl, hrow⟩ := hv.pt_inv (by omega)
  rw [show ptrT 2 = 70 from rfl] at hve
  subst hve
  obtain ⟨A3, cap3, rfl, hl0, hl1, _⟩ := id hrow
  unfold maxLen at hl1
  have hlay : ∀ w', Below w0.heap.size w0 w' → Calls Tryz.prog 154 #[.pointer (some ⟨gb, 0, none⟩)] w' (Same (.int .i64 3) w') := fun w' h => layout154 gb 3 w' (hcl w' h).1
  have hml := fun w => meth_layout 2 (by decide) gb w
  rw [show ptrT 2 = 70 from rfl] at hml
  have ta67 := fun w => ta_no (T := 70) (U := 67) (by decide) (by decide) (by decide) gb w
  have ta70 := fun w => ta_yes (T := 70) (by decide) gb w
  have ta73 := fun w => ta_no (T := 70) (U := 73) (by decide) (by decide) (by decide) gb w
  have HLAY := Lib.hid (hlay w hB.below)
  have hstr := fun w => stride55at 3 3 (by decide) (by decide) rfl w
  have HSTR := Lib.hid hstr
  have hfl : ∀ w', Below w0.heap.size w0 w' → Calls Tryz.prog 54 #[.pointer (some ⟨gb, 0, none⟩)] w' (Same (.slice A3 f.length cap3) w') := fun w' h => flat54 gb _ w' (hcl w' h).2
  have HFL := Lib.hid hfl
  have hem : ∀ w', Below w0.heap.size w0 w' → Calls Tryz.prog 51 #[.pointer (some ⟨gb, 0, none⟩)] w' (Same (.bool (decide (f.length = 0))) w') := fun w' h => empty51 gb f.length cap3 A3 w' (hcl w' h).2 hW
  have HEM := Lib.hid hem
  have HE0 := Lib.hid (fun w' (h : Bld w0 b (s ++ [76, 73, 78, 69, 83, 84, 82, 73, 78, 71, 32, 77, 32]) w') (h2 : s.length + 13 + 5 ≤ 140737488355328) => writeEmpty52 w0 b _ (.pointer (some ⟨eb, 0, none⟩)) w' h (by simp only [List.length_append, List.length_cons, List.length_nil]; omega))
  by_cases h0 : f.length = 0
  · rw [show placesT 3 d f = emptyT by unfold placesT; rw [if_pos h0]] at hl ⊢
    have hl5 : s.length + 13 + 5 ≤ 140737488355328 := by have h5 : emptyT.length = 5 := rfl; simp only [List.length_cons, List.length_nil, h5] at hl; omega
    have HEE := Lib.hid (fun w' h => HE0.out w' h hl5)
    rw [decide_eq_true h0] at HEM
    clear hlay hstr hfl hem hl hl5 h0 hcl hrow hv hB hE hok hP
    go_enter Tryz.func22, Tryz.ntmps22
    go_wp2_with (fail)
    refine HLAY.out.mono ?_
    rintro e1 w1 ⟨rfl, rfl⟩
    go_wp2_with (fail)
    refine H1.out.mono ?_
    rintro e2 w2 ⟨m2, rfl, hB2⟩
    have HB2 := Lib.hid hB2
    clear hB2
    go_wp2_with (fail)
    refine (HEM.out _ HB2.out.below).mono ?_
    rintro e3 w3 ⟨rfl, rfl⟩
    go_wp2_with (fail)
    refine (HEE.out _ HB2.out).mono ?_
    rintro e4 w4 ⟨rfl, hB4⟩
    have HB4 := Lib.hid hB4
    clear hB4
    go_wp2_with (fail)
    go_ret
    exact ⟨rfl, HB4.out⟩
  · rw [show placesT 3 d f = inBr (numsU 3 d f f.length) by unfold placesT; rw [if_neg h0]] at hl ⊢
    have HWC := Lib.hid (fun w' (h : Bld w0 b (s ++ [76, 73, 78, 69, 83, 84, 82, 73, 78, 71, 32, 77, 32]) w') => writeFlat1_56 w0 eb b d hE f hok _ hrow 3 (by decide) (by decide) hP.mod hW _ w' h (by simp only [List.length_append, List.length_cons, List.length_nil] at hl ⊢; omega))
    rw [decide_eq_false h0] at HEM
    clear hlay hstr hfl hem hl h0 hcl hrow hv hB hE hok hP
    go_enter Tryz.func22, Tryz.ntmps22
    go_wp2_with (fail)
    refine HLAY.out.mono ?_
    rintro e1 w1 ⟨rfl, rfl⟩
    go_wp2_with (fail)
    refine H1.out.mono ?_
    rintro e2 w2 ⟨m2, rfl, hB2⟩
    have HB2 := Lib.hid hB2
    clear hB2
    go_wp2_with (fail)
    refine (HEM.out _ HB2.out.below).mono ?_
    rintro e3 w3 ⟨rfl, rfl⟩
    go_wp2_with (fail)
    refine (HFL.out _ HB2.out.below).mono ?_
    rintro e4 w4 ⟨rfl, rfl⟩
    go_wp2_with (fail)
    refine (HSTR.out _).mono ?_
    rintro e5 w5 ⟨rfl, rfl⟩
    go_wp2_with (fail)
    refine (HWC.out _ HB2.out).mono ?_
    rintro e6 w6 ⟨rfl, hB6⟩
    have HB6 := Lib.hid hB6
    clear hB6
    go_wp2_with (fail)
    go_ret
    exact ⟨rfl, HB6.out⟩

set_option maxRecDepth 100000 in
set_option maxHeartbeats 4000000 in
theorem write_2_4 : WriteS 2 4 := by
  intro w0 eb b d s0 f e es kids v s w hE hv hok hP hW hB hl
  have hbt : wktT d (.mk 2 4 s0 f e es kids) = [76, 73, 78, 69, 83, 84, 82, 73, 78, 71, 32, 90, 77, 32] ++ bodyT d (.mk 2 4 s0 f e es kids) := by
    rw [wktT_eq, layT_own 2 4 s0 f e es kids (Or.inl (by decide))]
    rfl
  rw [hbt] at hl ⊢
  rw [← List.append_assoc]
  have hbd : bodyT d (.mk 2 4 s0 f e es kids) = placesT 4 d f := rfl
  have hS : (strideF 4).toNat = 4 := rfl
  rw [hS] at hP
  rw [hbd] at hl ⊢
  clear hbt hbd hS
  simp only [List.length_append] at hl
  have H1 := Lib.hid (header2 w0 b s [76, 73, 78, 69, 83, 84, 82, 73, 78, 71, 32] [90, 77, 32] w hB (by simp only [List.length_append, List.length_cons, List.length_nil] at hl ⊢; omega))
  obtain ⟨gb, v3, hve, hlt, hcl, hrow⟩ := hv.pt_inv (by omega)
  rw [show ptrT 2 = 70 from rfl] at hve
  subst hve
  obtain ⟨A3, cap3, rfl, hl0, hl1, _⟩ := id hrow
  unfold maxLen at hl1
  have hlay : ∀ w', Below w0.heap.size w0 w' → Calls Tryz.prog 154 #[.pointer (some ⟨gb, 0, none⟩)] w' (Same (.int .i64 4) w') := fun w' h => layout154 gb 4 w' (hcl w' h).1
  have hml := fun w => meth_layout 2 (by decide) gb w
  rw [show ptrT 2 = 70 from rfl] at hml
  have ta67 := fun w => ta_no (T := 70) (U := 67) (by decide) (by decide) (by decide) gb w
  have ta70 := fun w => ta_yes (T := 70) (by decide) gb w
  have ta73 := fun w => ta_no (T := 70) (U := 73) (by decide) (by decide) (by decide) gb w
  have HLAY := Lib.hid (hlay w hB.below)
  have hstr := fun w => stride55at 4 4 (by decide) (by decide) rfl w
  have HSTR := Lib.hid hstr
  have hfl : ∀ w', Below w0.heap.size w0 w' → Calls Tryz.prog 54 #[.pointer (some ⟨gb, 0, none⟩)] w' (Same (.slice A3 f.length cap3) w') := fun w' h => flat54 gb _ w' (hcl w' h).2
  have HFL := Lib.hid hfl
  have hem : ∀ w', Below w0.heap.size w0 w' → Calls Tryz.prog 51 #[.pointer (some ⟨gb, 0, none⟩)] w' (Same (.bool (decide (f.length = 0))) w') := fun w' h => empty51 gb f.length cap3 A3 w' (hcl w' h).2 hW
  have HEM := Lib.hid hem
  have HE0 := Lib.hid (fun w' (h : Bld w0 b (s ++ [76, 73, 78, 69, 83, 84, 82, 73, 78, 71, 32, 90, 77, 32]) w') (h2 : s.length + 14 + 5 ≤ 140737488355328) => writeEmpty52 w0 b _ (.pointer (some ⟨eb, 0, none⟩)) w' h (by simp only [List.length_append, List.length_cons, List.length_nil]; omega))
  by_cases h0 : f.length = 0
  · rw [show placesT 4 d f = emptyT by unfold placesT; rw [if_pos h0]] at hl ⊢
    have hl5 : s.length + 14 + 5 ≤ 140737488355328 := by have h5 : emptyT.length = 5 := rfl; simp only [List.length_cons, List.length_nil, h5] at hl; omega
    have HEE := Lib.hid (fun w' h => HE0.out w' h hl5)
    rw [decide_eq_true h0] at HEM
    clear hlay hstr hfl hem hl hl5 h0 hcl hrow hv hB hE hok hP
    go_enter Tryz.func22, Tryz.ntmps22
    go_wp2_with (fail)
    refine HLAY.out.mono ?_
    rintro e1 w1 ⟨rfl, rfl⟩
    go_wp2_with (fail)
    refine H1.out.mono ?_
    rintro e2 w2 ⟨m2, rfl, hB2⟩
    have HB2 := Lib.hid hB2
    clear hB2
    go_wp2_with (fail)
    refine (HEM.out _ HB2.out.below).mono ?_
    rintro e3 w3 ⟨rfl, rfl⟩
    go_wp2_with (fail)
    refine (HEE.out _ HB2.out).mono ?_
    rintro e4 w4 ⟨rfl, hB4⟩
    have HB4 := Lib.hid hB4
    clear hB4
    go_wp2_with (fail)
    go_ret
    exact ⟨rfl, HB4.out⟩
  · rw [show placesT 4 d f = inBr (numsU 4 d f f.length) by unfold placesT; rw [if_neg h0]] at hl ⊢
    have HWC := Lib.hid (fun w' (h : Bld w0 b (s ++ [76, 73, 78, 69, 83, 84, 82, 73, 78, 71, 32, 90, 77, 32]) w') => writeFlat1_56 w0 eb b d hE f hok _ hrow 4 (by decide) (by decide) hP.mod hW _ w' h (by simp only [List.length_append, List.length_cons, List.length_nil] at hl ⊢; omega))
    rw [decide_eq_false h0] at HEM
    clear hlay hstr hfl hem hl h0 hcl hrow hv hB hE hok hP
    go_enter Tryz.func22, Tryz.ntmps22
    go_wp2_with (fail)
    refine HLAY.out.mono ?_
    rintro e1 w1 ⟨rfl, rfl⟩
    go_wp2_with (fail)
    refine H1.out.mono ?_
    rintro e2 w2 ⟨m2, rfl, hB2⟩
    have HB2 := Lib.hid hB2
    clear hB2
    go_wp2_with (fail)
    refine (HEM.out _ HB2.out.below).mono ?_
    rintro e3 w3 ⟨rfl, rfl⟩
    go_wp2_with (fail)
    refine (HFL.out _ HB2.out.below).mono ?_
    rintro e4 w4 ⟨rfl, rfl⟩
    go_wp2_with (fail)
    refine (HSTR.out _).mono ?_
    rintro e5 w5 ⟨rfl, rfl⟩
    go_wp2_with (fail)
    refine (HWC.out _ HB2.out).mono ?_
    rintro e6 w6 ⟨rfl, hB6⟩
    have HB6 := Lib.hid hB6
    clear hB6
    go_wp2_with (fail)
    go_ret
    exact ⟨rfl, HB6.out⟩

end Go.Proofs.YtokmamakmaojpaaGreatDoor

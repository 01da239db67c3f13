/-
  E66. The encoder: write, kind 6.
  E8. The encoder: every geometry; Encode.
  G3. Worlds with some blocks struck: what is said there leans on no such block.
  J0. NewEncoder and its option.
-/
import Derived.Test.YtokmamakmaojpaaGreatDoorM21
import Derived.Test.YtokmamakmaojpaaGreatDoorM22
import Derived.Test.YtokmamakmaojpaaGreatDoorM23
import Derived.Test.YtokmamakmaojpaaGreatDoorM24
import Derived.Test.YtokmamakmaojpaaGreatDoorM25
import Derived.Test.YtokmamakmaojpaaGreatDoorM26
import Derived.Deep.RegionWith
set_option linter.unusedVariables false
set_option linter.unusedSimpArgs false
/- E66. -/
namespace Go.Proofs.YtokmamakmaojpaaGreatDoor
open Go.RowKit

set_option maxRecDepth 100000 in
set_option maxHeartbeats 4000000 in
theorem write_6_1 : WriteS 6 1 := by
  intro w0 eb b d s0 f e es kids v s w hE hv hok hP hW hB hl
  have hbt : wktT d (.mk 6 1 s0 f e es kids) = [77, 85, 76, 84, 73, 80, 79, 76, 89, 71, 79, 78, 32] ++ bodyT d (.mk 6 1 s0 f e es kids) := by
    rw [wktT_eq, layT_own 6 1 s0 f e es kids (Or.inl (by decide))]
    rfl
  rw [hbt] at hl ⊢
  rw [← List.append_assoc]
  have hbd : bodyT d (.mk 6 1 s0 f e es kids) = (if es.length = 0 then emptyT else polysT 2 d f es) := rfl
  have hS : (strideF 1).toNat = 2 := rfl
  rw [hS] at hP
  rw [hbd] at hl ⊢
  clear hbt hbd hS
  simp only [List.length_append] at hl
  have H1 := Lib.hid (writeString50 w0 b s [77, 85, 76, 84, 73, 80, 79, 76, 89, 71, 79, 78, 32] w hB (by simp only [List.length_append, List.length_cons, List.length_nil] at hl ⊢; omega))
  obtain ⟨gb, v3, v5, hve, hlt, hcl, hrow, ev, hrow5, hrows⟩ := hv.mp_inv
  subst hve
  obtain ⟨A3, cap3, rfl, hl0, hl1, _⟩ := id hrow
  unfold maxLen at hl1
  obtain ⟨A5, cap5, rfl, hl50, hl51, _⟩ := id hrow5
  unfold maxLen at hl51
  have hlay : ∀ w', Below w0.heap.size w0 w' → Calls Tryz.prog 154 #[.pointer (some ⟨gb, 0, none⟩)] w' (Same (.int .i64 1) w') := fun w' h => layout154 gb 1 w' (hcl w' h).1
  have hml := fun w => meth_layout 6 (by decide) gb w
  rw [show ptrT 6 = 89 from rfl] at hml
  have ta67 := fun w => ta_no (T := 89) (U := 67) (by decide) (by decide) (by decide) gb w
  have ta70 := fun w => ta_no (T := 89) (U := 70) (by decide) (by decide) (by decide) gb w
  have ta73 := fun w => ta_no (T := 89) (U := 73) (by decide) (by decide) (by decide) gb w
  have ta76 := fun w => ta_no (T := 89) (U := 76) (by decide) (by decide) (by decide) gb w
  have ta80 := fun w => ta_no (T := 89) (U := 80) (by decide) (by decide) (by decide) gb w
  have ta86 := fun w => ta_no (T := 89) (U := 86) (by decide) (by decide) (by decide) gb w
  have ta89 := fun w => ta_yes (T := 89) (by decide) gb w
  have HLAY := Lib.hid (hlay w hB.below)
  have hstr := fun w => stride55at 1 2 (by decide) (by decide) rfl w
  have HSTR := Lib.hid hstr
  have hfl : ∀ w', Below w0.heap.size w0 w' → Calls Tryz.prog 54 #[.pointer (some ⟨gb, 0, none⟩)] w' (Same (.slice A3 f.length cap3) w') := fun w' h => flat54 gb _ w' (hcl w' h).2.1
  have HFL := Lib.hid hfl
  have hem : ∀ w', Below w0.heap.size w0 w' → Calls Tryz.prog 62 #[.pointer (some ⟨gb, 0, none⟩)] w' (Same (.int .i64 es.length) w') := fun w' h => num62 gb es.length cap5 A5 w' (hcl w' h).2.2
  have HEM := Lib.hid hem
  have hen : ∀ w', Below w0.heap.size w0 w' → Calls Tryz.prog 64 #[.pointer (some ⟨gb, 0, none⟩)] w' (Same (.slice A5 es.length cap5) w') := fun w' h => endss64 gb _ w' (hcl w' h).2.2
  have HEN := Lib.hid hen
  have HE0 := Lib.hid (fun w' (h : Bld w0 b (s ++ [77, 85, 76, 84, 73, 80, 79, 76, 89, 71, 79, 78, 32]) w') (h2 : s.length + 13 + 5 ≤ 140737488355328) => writeEmpty52 w0 b _ (.pointer (some ⟨eb, 0, none⟩)) w' h (by simp only [List.length_append, List.length_cons, List.length_nil]; omega))
  by_cases h0 : es.length = 0
  · rw [if_pos h0] at hl ⊢
    have hl5 : s.length + 13 + 5 ≤ 140737488355328 := by have h5 : emptyT.length = 5 := rfl; simp only [List.length_cons, List.length_nil, h5] at hl; omega
    have HEE := Lib.hid (fun w' h => HE0.out w' h hl5)
    rw [h0] at HEM
    clear hlay hstr hfl hem hen hl hl5 h0 hcl hrow hv hB hE hok hP
    go_enter Tryz.func22, Tryz.ntmps22
    go_wp2_with (fail)
    refine HLAY.out.mono ?_
    rintro e1 w1 ⟨rfl, rfl⟩
    go_wp2_with (fail)
    refine H1.out.mono ?_
    rintro e2 w2 ⟨m2, rfl, hB2⟩
    have HB2 := Lib.hid hB2
    clear hB2
    go_wp2_with (fail)
    refine (HEM.out _ HB2.out.below).mono ?_
    rintro e3 w3 ⟨rfl, rfl⟩
    go_wp2_with (fail)
    refine (HEE.out _ HB2.out).mono ?_
    rintro e4 w4 ⟨rfl, hB4⟩
    have HB4 := Lib.hid hB4
    clear hB4
    go_wp2_with (fail)
    go_ret
    exact ⟨rfl, HB4.out⟩
  · rw [if_neg h0] at hl ⊢
    have HWC := Lib.hid (fun w' (h : Bld w0 b (s ++ [77, 85, 76, 84, 73, 80, 79, 76, 89, 71, 79, 78, 32]) w') => writeFlat3_63 w0 eb b d hE f hok _ hrow 2 (by decide) (by decide) hW es _ ev hrow5 hrows (hP.endss rfl) _ w' h (by simp only [List.length_append, List.length_cons, List.length_nil] at hl ⊢; omega))
    have hne : ((es.length : Int) == 0) = false := beq_false_of_ne (by omega)
    clear hlay hstr hfl hem hen hl h0 hcl hrow hv hB hE hok hP
    go_enter Tryz.func22, Tryz.ntmps22
    go_wp2_with (fail)
    refine HLAY.out.mono ?_
    rintro e1 w1 ⟨rfl, rfl⟩
    go_wp2_with (fail)
    refine H1.out.mono ?_
    rintro e2 w2 ⟨m2, rfl, hB2⟩
    have HB2 := Lib.hid hB2
    clear hB2
    go_wp2_with (fail)
    refine (HEM.out _ HB2.out.below).mono ?_
    rintro e3 w3 ⟨rfl, rfl⟩
    go_upto_region 78 with (fail)
    go_region_with (first | (go_at_call 54; refine (HFL.out _ (HB2.out.drewN 1).below).mono ?_; rintro e4 w4 ⟨rfl, rfl⟩) | (go_at_call 64; refine (HEN.out _ (HB2.out.drewN 1).below).mono ?_; rintro e4 w4 ⟨rfl, rfl⟩) | (go_at_call 55; refine (HSTR.out _).mono ?_; rintro e4 w4 ⟨rfl, rfl⟩) | (go_at_call 63; refine (HWC.out _ (HB2.out.drewN 1)).mono ?_; rintro e6 w6 ⟨rfl, hB6⟩; have HB6 := Lib.hid hB6; clear hB6))
    all_goals
      go_wp2_with (fail)
      go_ret
      exact ⟨rfl, HB6.out⟩

set_option maxRecDepth 100000 in
set_option maxHeartbeats 4000000 in
theorem write_6_2 : WriteS 6 2 := by
  intro w0 eb b d s0 f e es kids v s w hE hv hok hP hW hB hl
  have hbt : wktT d (.mk 6 2 s0 f e es kids) = [77, 85, 76, 84, 73, 80, 79, 76, 89, 71, 79, 78, 32, 90, 32] ++ bodyT d (.mk 6 2 s0 f e es kids) := by
    rw [wktT_eq, layT_own 6 2 s0 f e es kids (Or.inl (by decide))]
    rfl
  rw [hbt] at hl ⊢
  rw [← List.append_assoc]
  have hbd : bodyT d (.mk 6 2 s0 f e es kids) = (if es.length = 0 then emptyT else polysT 3 d f es) := rfl
  have hS : (strideF 2).toNat = 3 := rfl
  rw [hS] at hP
  rw [hbd] at hl ⊢
  clear hbt hbd hS
  simp only [List.length_append] at hl
  have H1 := Lib.hid (header2 w0 b s [77, 85, 76, 84, 73, 80, 79, 76, 89, 71, 79, 78, 32] [90, 32] w hB (by simp only [List.length_append, List.length_cons, List.length_nil] at hl ⊢; omega))
  obtain ⟨gb, v3, v5, hve, hlt, hcl, hrow, ev, hrow5, hrows⟩ := hv.mp_inv
  subst hve
  obtain ⟨A3, cap3, rfl, hl0, hl1, _⟩ := id hrow
  unfold maxLen at hl1
  obtain ⟨A5, cap5, rfl, hl50, hl51, _⟩ := id hrow5
  unfold maxLen at hl51
  have hlay : ∀ w', Below w0.heap.size w0 w' → Calls Tryz.prog 154 #[.pointer (some ⟨gb, 0, none⟩)] w' (Same (.int .i64 2) w') := fun w' h => layout154 gb 2 w' (hcl w' h).1
  have hml := fun w => meth_layout 6 (by decide) gb w
  rw [show ptrT 6 = 89 from rfl] at hml
  have ta67 := fun w => ta_no (T := 89) (U := 67) (by decide) (by decide) (by decide) gb w
  have ta70 := fun w => ta_no (T := 89) (U := 70) (by decide) (by decide) (by decide) gb w
  have ta73 := fun w => ta_no (T := 89) (U := 73) (by decide) (by decide) (by decide) gb w
  have ta76 := fun w => ta_no (T := 89) (U := 76) (by decide) (by decide) (by decide) gb w
  have ta80 := fun w => ta_no (T := 89) (U := 80) (by decide) (by decide) (by decide) gb w
  have ta86 := fun w => ta_no (T := 89) (U := 86) (by decide) (by decide) (by decide) gb w
  have ta89 := fun w => ta_yes (T := 89) (by decide) gb w
  have HLAY := Lib.hid (hlay w hB.below)
  have hstr := fun w => stride55at 2 3 (by decide) (by decide) rfl w
  have HSTR := Lib.hid hstr
  have hfl : ∀ w', Below w0.heap.size w0 w' → Calls Tryz.prog 54 #[.pointer (some ⟨gb, 0, none⟩)] w' (Same (.slice A3 f.length cap3) w') := fun w' h => flat54 gb _ w' (hcl w' h).2.1
  have HFL := Lib.hid hfl
  have hem : ∀ w', Below w0.heap.size w0 w' → Calls Tryz.prog 62 #[.pointer (some ⟨gb, 0, none⟩)] w' (Same (.int .i64 es.length) w') := fun w' h => num62 gb es.length cap5 A5 w' (hcl w' h).2.2
  have HEM := Lib.hid hem
  have hen : ∀ w', Below w0.heap.size w0 w' → Calls Tryz.prog 64 #[.pointer (some ⟨gb, 0, none⟩)] w' (Same (.slice A5 es.length cap5) w') := fun w' h => endss64 gb _ w' (hcl w' h).2.2
  have HEN := Lib.hid hen
  have HE0 := Lib.hid (fun w' (h : Bld w0 b (s ++ [77, 85, 76, 84, 73, 80, 79, 76, 89, 71, 79, 78, 32, 90, 32]) w') (h2 : s.length + 15 + 5 ≤ 140737488355328) => writeEmpty52 w0 b _ (.pointer (some ⟨eb, 0, none⟩)) w' h (by simp only [List.length_append, List.length_cons, List.length_nil]; omega))
  by_cases h0 : es.length = 0
  · rw [if_pos h0] at hl ⊢
    have hl5 : s.length + 15 + 5 ≤ 140737488355328 := by have h5 : emptyT.length = 5 := rfl; simp only [List.length_cons, List.length_nil, h5] at hl; omega
    have HEE := Lib.hid (fun w' h => HE0.out w' h hl5)
    rw [h0] at HEM
    clear hlay hstr hfl hem hen hl hl5 h0 hcl hrow hv hB hE hok hP
    go_enter Tryz.func22, Tryz.ntmps22
    go_wp2_with (fail)
    refine HLAY.out.mono ?_
    rintro e1 w1 ⟨rfl, rfl⟩
    go_wp2_with (fail)
    refine H1.out.mono ?_
    rintro e2 w2 ⟨m2, rfl, hB2⟩
    have HB2 := Lib.hid hB2
    clear hB2
    go_wp2_with (fail)
    refine (HEM.out _ HB2.out.below).mono ?_
    rintro e3 w3 ⟨rfl, rfl⟩
    go_wp2_with (fail)
    refine (HEE.out _ HB2.out).mono ?_
    rintro e4 w4 ⟨rfl, hB4⟩
    have HB4 := Lib.hid hB4
    clear hB4
    go_wp2_with (fail)
    go_ret
    exact ⟨rfl, HB4.out⟩
  · rw [if_neg h0] at hl ⊢
    have HWC := Lib.hid (fun w' (h : Bld w0 b (s ++ [77, 85, 76, 84, 73, 80, 79, 76, 89, 71, 79, 78, 32, 90, 32]) w') => writeFlat3_63 w0 eb b d hE f hok _ hrow 3 (by decide) (by decide) hW es _ ev hrow5 hrows (hP.endss rfl) _ w' h (by simp only [List.length_append, List.length_cons, List.length_nil] at hl ⊢; omega))
    have hne : ((es.length : Int) == 0) = false := beq_false_of_ne (by omega)
    clear hlay hstr hfl hem hen hl h0 hcl hrow hv hB hE hok hP
    go_enter Tryz.func22, Tryz.ntmps22
    go_wp2_with (fail)
    refine HLAY.out.mono ?_
    rintro e1 w1 ⟨rfl, rfl⟩
    go_wp2_with (fail)
    refine H1.out.mono ?_
    rintro e2 w2 ⟨m2, rfl, hB2⟩
    have HB2 := Lib.hid hB2
    clear hB2
    go_wp2_with (fail)
    refine (HEM.out _ HB2.out.below).mono ?_
    rintro e3 w3 ⟨rfl, rfl⟩
    go_upto_region 78 with (fail)
    go_region_with (first | (go_at_call 54; refine (HFL.out _ (HB2.out.drewN 1).below).mono ?_; rintro e4 w4 ⟨rfl, rfl⟩) | (go_at_call 64; refine (HEN.out _ (HB2.out.drewN 1).below).mono ?_; rintro e4 w4 ⟨rfl, rfl⟩) | (go_at_call 55; refine (HSTR.out _).mono ?_; rintro e4 w4 ⟨rfl, rfl⟩) | (go_at_call 63; refine (HWC.out _ (HB2.out.drewN 1)).mono ?_; rintro e6 w6 ⟨rfl, hB6⟩; have HB6 := Lib.hid hB6; clear hB6))
    all_goals
      go_wp2_with (fail)
      go_ret
      exact ⟨rfl, HB6.out⟩

set_option maxRecDepth 100000 in
set_option maxHeartbeats 4000000 in
theorem write_6_3 : WriteS 6 3 := by
  intro w0 eb b d s0 f e es kids v s w hE hv hok hP hW hB hl
  have hbt : wktT d (.mk 6 3 s0 f e es kids) = [77, 85, 76, 84, 73, 80, 79, 76, 89, 71, 79, 78, 32, 77, 32] ++ bodyT d (.mk 6 3 s0 f e es kids) := by
    rw [wktT_eq, layT_own 6 3 s0 f e es kids (Or.inl (by decide))]
    rfl
  rw [hbt] at hl ⊢
  rw [← List.append_assoc]
  have hbd : bodyT d (.mk 6 3 s0 f e es kids) = (if es.length = 0 then emptyT else polysT 3 d f es) := rfl
  have hS : (strideF 3).toNat = 3 := rfl
  rw [hS] at hP
  rw [hbd] at hl ⊢
  clear hbt hbd hS
  simp only [List.length_append] at hl
  have H1 := Lib.hid (header2 w0 b s [77, 85, 76, 84, 73, 80, 79, 76, 89, 71, 79, 78, 32] [77, 32] w hB (by simp only [List.length_append, List.length_cons, List.length_nil] at hl ⊢; omega))
  obtain ⟨gb, v3, v5, hve, hlt, hcl, hrow, ev, hrow5, hrows⟩ := hv.mp_inv
  subst hve
  obtain ⟨A3, cap3, rfl, hl0, hl1, _⟩ := id hrow
  unfold maxLen at hl1
  obtain ⟨A5, cap5, rfl, hl50, hl51, _⟩ := id hrow5
  unfold maxLen at hl51
  have hlay : ∀ w', Below w0.heap.size w0 w' → Calls Tryz.prog 154 #[.pointer (some ⟨gb, 0, none⟩)] w' (Same (.int .i64 3) w') := fun w' h => layout154 gb 3 w' (hcl w' h).1
  have hml := fun w => meth_layout 6 (by decide) gb w
  rw [show ptrT 6 = 89 from rfl] at hml
  have ta67 := fun w => ta_no (T := 89) (U := 67) (by decide) (by decide) (by decide) gb w
  have ta70 := fun w => ta_no (T := 89) (U := 70) (by decide) (by decide) (by decide) gb w
  have ta73 := fun w => ta_no (T := 89) (U := 73) (by decide) (by decide) (by decide) gb w
  have ta76 := fun w => ta_no (T := 89) (U := 76) (by decide) (by decide) (by decide) gb w
  have ta80 := fun w => ta_no (T := 89) (U := 80) (by decide) (by decide) (by decide) gb w
  have ta86 := fun w => ta_no (T := 89) (U := 86) (by decide) (by decide) (by decide) gb w
  have ta89 := fun w => ta_yes (T := 89) (by decide) gb w
  have HLAY := Lib.hid (hlay w hB.below)
  have hstr := fun w => stride55at 3 3 (by decide) (by decide) rfl w
  have HSTR := Lib.hid hstr
  have hfl : ∀ w', Below w0.heap.size w0 w' → Calls Tryz.prog 54 #[.pointer (some ⟨gb, 0, none⟩)] w' (Same (.slice A3 f.length cap3) w') := fun w' h => flat54 gb _ w' (hcl w' h).2.1
  have HFL := Lib.hid hfl
  have hem : ∀ w', Below w0.heap.size w0 w' → Calls Tryz.prog 62 #[.pointer (some ⟨gb, 0, none⟩)] w' (Same (.int .i64 es.length) w') := fun w' h => num62 gb es.length cap5 A5 w' (hcl w' h).2.2
  have HEM := Lib.hid hem
  have hen : ∀ w', Below w0.heap.size w0 w' → Calls Tryz.prog 64 #[.pointer (some ⟨gb, 0, none⟩)] w' (Same (.slice A5 es.length cap5) w') := fun w' h => endss64 gb _ w' (hcl w' h).2.2
  have HEN := Lib.hid hen
  have HE0 := Lib.hid (fun w' (h : Bld w0 b (s ++ [77, 85, 76, 84, 73, 80, 79, 76, 89, 71, 79, 78, 32, 77, 32]) w') (h2 : s.length + 15 + 5 ≤ 140737488355328) => writeEmpty52 w0 b _ (.pointer (some ⟨eb, 0, none⟩)) w' h (by simp only [List.length_append, List.length_cons, List.length_nil]; omega))
  by_cases h0 : es.length = 0
  · rw [if_pos h0] at hl ⊢
    have hl5 : s.length + 15 + 5 ≤ 140737488355328 := by have h5 : emptyT.length = 5 := rfl; simp only [List.length_cons, List.length_nil, h5] at hl; omega
    have HEE := Lib.hid (fun w' h => HE0.out w' h hl5)
    rw [h0] at HEM
    clear hlay hstr hfl hem hen hl hl5 h0 hcl hrow hv hB hE hok hP
    go_enter Tryz.func22, Tryz.ntmps22
    go_wp2_with (fail)
    refine HLAY.out.mono ?_
    rintro e1 w1 ⟨rfl, rfl⟩
    go_wp2_with (fail)
    refine H1.out.mono ?_
    rintro e2 w2 ⟨m2, rfl, hB2⟩
    have HB2 := Lib.hid hB2
    clear hB2
    go_wp2_with (fail)
    refine (HEM.out _ HB2.out.below).mono ?_
    rintro e3 w3 ⟨rfl, rfl⟩
    go_wp2_with (fail)
    refine (HEE.out _ HB2.out).mono ?_
    rintro e4 w4 ⟨rfl, hB4⟩
    have HB4 := Lib.hid hB4
    clear hB4
    go_wp2_with (fail)
    go_ret
    exact ⟨rfl, HB4.out⟩
  · rw [if_neg h0] at hl ⊢
    have HWC := Lib.hid (fun w' (h : Bld w0 b (s ++ [77, 85, 76, 84, 73, 80, 79, 76, 89, 71, 79, 78, 32, 77, 32]) w') => writeFlat3_63 w0 eb b d hE f hok _ hrow 3 (by decide) (by decide) hW es _ ev hrow5 hrows (hP.endss rfl) _ w' h (by simp only [List.length_append, List.length_cons, List.length_nil] at hl ⊢; omega))
    have hne : ((es.length : Int) == 0) = false := beq_false_of_ne (by omega)
    clear hlay hstr hfl hem hen hl h0 hcl hrow hv hB hE hok hP
    go_enter Tryz.func22, Tryz.ntmps22
    go_wp2_with (fail)
    refine HLAY.out.mono ?_
    rintro e1 w1 ⟨rfl, rfl⟩
    go_wp2_with (fail)
    refine H1.out.mono ?_
    rintro e2 w2 ⟨m2, rfl, hB2⟩
    have HB2 := Lib.hid hB2
    clear hB2
    go_wp2_with (fail)
    refine (HEM.out _ HB2.out.below).mono ?_
    rintro e3 w3 ⟨rfl, rfl⟩
    go_upto_region 78 with (fail)
    go_region_with (first | (go_at_call 54; refine (HFL.out _ (HB2.out.drewN 1).below).mono ?_; rintro e4 w4 ⟨rfl, rfl⟩) | (go_at_call 64; refine (HEN.out _ (HB2.out.drewN 1).below).mono ?_; rintro e4 w4 ⟨rfl, rfl⟩) | (go_at_call 55; refine (HSTR.out _).mono ?_; rintro e4 w4 ⟨rfl, rfl⟩) | (go_at_call 63; refine (HWC.out _ (HB2.out.drewN 1)).mono ?_; rintro e6 w6 ⟨rfl, hB6⟩; have HB6 := Lib.hid hB6; clear hB6))
    all_goals
      go_wp2_with (fail)
      go_ret
      exact ⟨rfl, HB6.out⟩

set_option maxRecDepth 100000 in
set_option maxHeartbeats 4000000 in
theorem write_6_4 : WriteS 6 4 := by
  intro w0 eb b d s0 f e es kids v s w hE hv hok hP hW hB hl
  have hbt : wktT d (.mk 6 4 s0 f e es kids) = [77, 85, 76, 84, 73, 80, 79, 76, 89, 71, 79, 78, 32, 90, 77, 32] ++ bodyT d (.mk 6 4 s0 f e es kids) := by
    rw [wktT_eq, layT_own 6 4 s0 f e es kids (Or.inl (by decide))]
    rfl
  rw [hbt] at hl ⊢
  rw [← List.append_assoc]
  have hbd : bodyT d (.mk 6 4 s0 f e es kids) = (if es.length = 0 then emptyT else polysT 4 d f es) := rfl
  have hS : (strideF 4).toNat = 4 := rfl
  rw [hS] at hP
  rw [hbd] at hl ⊢
  clear hbt hbd hS
  simp only [List.length_append] at hl
  have H1 := Lib.hid (header2 w0 b s [77, 85, 76, 84, 73, 80, 79, 76, 89, 71, 79, 78, 32] [90, 77, 32] w hB (by simp only [List.length_append, List.length_cons, List.length_nil] at hl ⊢; omega))
  obtain ⟨gb, v3, v5, hve, hlt, hcl, hrow, ev, hrow5, hrows⟩ := hv.mp_inv
  subst hve
  obtain ⟨A3, cap3, rfl, hl0, hl1, _⟩ := id hrow
  unfold maxLen at hl1
  obtain ⟨A5, cap5, rfl, hl50, hl51, _⟩ := id hrow5
  unfold maxLen at hl51
  have hlay : ∀ w', Below w0.heap.size w0 w' → Calls Tryz.prog 154 #[.pointer (some ⟨gb, 0, none⟩)] w' (Same (.int .i64 4) w') := fun w' h => layout154 gb 4 w' (hcl w' h).1
  have hml := fun w => meth_layout 6 (by decide) gb w
  rw [show ptrT 6 = 89 from rfl] at hml
  have ta67 := fun w => ta_no (T := 89) (U := 67) (by decide) (by decide) (by decide) gb w
  have ta70 := fun w => ta_no (T := 89) (U := 70) (by decide) (by decide) (by decide) gb w
  have ta73 := fun w => ta_no (T := 89) (U := 73) (by decide) (by decide) (by decide) gb w
  have ta76 := fun w => ta_no (T := 89) (U := 76) (by decide) (by decide) (by decide) gb w
  have ta80 := fun w => ta_no (T := 89) (U := 80) (by decide) (by decide) (by decide) gb w
  have ta86 := fun w => ta_no (T := 89) (U := 86) (by decide) (by decide) (by decide) gb w
  have ta89 := fun w => ta_yes (T := 89) (by decide) gb w
  have HLAY := Lib.hid (hlay w hB.below)
  have hstr := fun w => stride55at 4 4 (by decide) (by decide) rfl w
  have HSTR := Lib.hid hstr
  have hfl : ∀ w', Below w0.heap.size w0 w' → Calls Tryz.prog 54 #[.pointer (some ⟨gb, 0, none⟩)] w' (Same (.slice A3 f.length cap3) w') := fun w' h => flat54 gb _ w' (hcl w' h).2.1
  have HFL := Lib.hid hfl
  have hem : ∀ w', Below w0.heap.size w0 w' → Calls Tryz.prog 62 #[.pointer (some ⟨gb, 0, none⟩)] w' (Same (.int .i64 es.length) w') := fun w' h => num62 gb es.length cap5 A5 w' (hcl w' h).2.2
  have HEM := Lib.hid hem
  have hen : ∀ w', Below w0.heap.size w0 w' → Calls Tryz.prog 64 #[.pointer (some ⟨gb, 0, none⟩)] w' (Same (.slice A5 es.length cap5) w') := fun w' h => endss64 gb _ w' (hcl w' h).2.2
  have HEN := Lib.hid hen
  have HE0 := Lib.hid (fun w' (h : Bld w0 b (s ++ [77, 85, 76, 84, 73, 80, 79, 76, 89, 71, 79, 78, 32, 90, 77, 32]) w') (h2 : s.length + 16 + 5 ≤ 140737488355328) => writeEmpty52 w0 b _ (.pointer (some ⟨eb, 0, none⟩)) w' h (by simp only [List.length_append, List.length_cons, List.length_nil]; omega))
  by_cases h0 : es.length = 0
  · rw [if_pos h0] at hl ⊢
    have hl5 : s.length + 16 + 5 ≤ 140737488355328 := by have h5 : emptyT.length = 5 := rfl; simp only [List.length_cons, List.length_nil, h5] at hl; omega
    have HEE := Lib.hid (fun w' h => HE0.out w' h hl5)
    rw [h0] at HEM
    clear hlay hstr hfl hem hen hl hl5 h0 hcl hrow hv hB hE hok hP
    go_enter Tryz.func22, Tryz.ntmps22
    go_wp2_with (fail)
    refine HLAY.out.mono ?_
    rintro e1 w1 ⟨rfl, rfl⟩
    go_wp2_with (fail)
    refine H1.out.mono ?_
    rintro e2 w2 ⟨m2, rfl, hB2⟩
    have HB2 := Lib.hid hB2
    clear hB2
    go_wp2_with (fail)
    refine (HEM.out _ HB2.out.below).mono ?_
    rintro e3 w3 ⟨rfl, rfl⟩
    go_wp2_with (fail)
    refine (HEE.out _ HB2.out).mono ?_
    rintro e4 w4 ⟨rfl, hB4⟩
    have HB4 := Lib.hid hB4
    clear hB4
    go_wp2_with (fail)
    go_ret
    exact ⟨rfl, HB4.out⟩
  · rw [if_neg h0] at hl ⊢
    have HWC := Lib.hid (fun w' (h : Bld w0 b (s ++ [77, 85, 76, 84, 73, 80, 79, 76, 89, 71, 79, 78, 32, 90, 77, 32]) w') => writeFlat3_63 w0 eb b d hE f hok _ hrow 4 (by decide) (by decide) hW es _ ev hrow5 hrows (hP.endss rfl) _ w' h (by simp only [List.length_append, List.length_cons, List.length_nil] at hl ⊢; omega))
    have hne : ((es.length : Int) == 0) = false := beq_false_of_ne (by omega)
    clear hlay hstr hfl hem hen hl h0 hcl hrow hv hB hE hok hP
    go_enter Tryz.func22, Tryz.ntmps22
    go_wp2_with (fail)
    refine HLAY.out.mono ?_
    rintro e1 w1 ⟨rfl, rfl⟩
    go_wp2_with (fail)
    refine H1.out.mono ?_
    rintro e2 w2 ⟨m2, rfl, hB2⟩
    have HB2 := Lib.hid hB2
    clear hB2
    go_wp2_with (fail)
    refine (HEM.out _ HB2.out.below).mono ?_
    rintro e3 w3 ⟨rfl, rfl⟩
    go_upto_region 78 with (fail)
    go_region_with (first | (go_at_call 54; refine (HFL.out _ (HB2.out.drewN 1).below).mono ?_; rintro e4 w4 ⟨rfl, rfl⟩) | (go_at_call 64; refine (HEN.out _ (HB2.out.drewN 1).below).mono ?_; rintro e4 w4 ⟨rfl, rfl⟩) | (go_at_call 55; refine (HSTR.out _).mono ?_; rintro e4 w4 ⟨rfl, rfl⟩) | (go_at_call 63; refine (HWC.out _ (HB2.out.drewN 1)).mono ?_; rintro e6 w6 ⟨rfl, hB6⟩; have HB6 := Lib.hid hB6; clear hB6))
    all_goals
      go_wp2_with (fail)
      go_ret
      exact ⟨rfl, HB6.out⟩

end Go.Proofs.YtokmamakmaojpaaGreatDoor

/- E8. -/
namespace Go.Proofs.YtokmamakmaojpaaGreatDoor
open Go.RowKit

theorem writeS_all (k l : Int) (hk : k = 1 ∨ k = 2 ∨ k = 8 ∨ k = 3 ∨ k = 4 ∨ k = 5 ∨ k = 6) (h1 : 1 ≤ l) (h4 : l ≤ 4) : WriteS k l := by
  have hl : l = 1 ∨ l = 2 ∨ l = 3 ∨ l = 4 := by omega
  rcases hk with rfl | rfl | rfl | rfl | rfl | rfl | rfl <;> rcases hl with rfl | rfl | rfl | rfl
  · exact write_1_1
  · exact write_1_2
  · exact write_1_3
  · exact write_1_4
  · exact write_2_1
  · exact write_2_2
  · exact write_2_3
  · exact write_2_4
  · exact write_8_1
  · exact write_8_2
  · exact write_8_3
  · exact write_8_4
  · exact write_3_1
  · exact write_3_2
  · exact write_3_3
  · exact write_3_4
  · exact write_4_1
  · exact write_4_2
  · exact write_4_3
  · exact write_4_4
  · exact write_5_1
  · exact write_5_2
  · exact write_5_3
  · exact write_5_4
  · exact write_6_1
  · exact write_6_2
  · exact write_6_3
  · exact write_6_4
theorem writeC_all (L : Int) (h0 : 0 ≤ L) (h4 : L ≤ 4) : WriteC L := by
  have hl : L = 0 ∨ L = 1 ∨ L = 2 ∨ L = 3 ∨ L = 4 := by omega
  rcases hl with rfl | rfl | rfl | rfl | rfl
  · exact writeC_0
  · exact writeC_1
  · exact writeC_2
  · exact writeC_3
  · exact writeC_4
theorem write22 (w0 : World) (eb b : Nat) (d : Int) (hE : Enc w0 eb d) (g : G) : layB 4 g = true → goodB g = true → gok g → wgt g ≤ 2097152 → ∀ (v : Value) (s : List UInt8) (w : World), TAt w0 v g → Bld w0 b s w → s.length + (wktT d g).length ≤ 140737488355328 →
    Calls Tryz.prog 22 #[.pointer (some ⟨eb, 0, none⟩), .pointer (some ⟨b, 0, none⟩), v] w (EWr w0 b (s ++ wktT d g)) := by
  induction g using G.ind with
  | h k l s0 f e es kids ih =>
    intro hY hG hok hW v s w hv hB hl
    by_cases hk : k = 7
    · subst hk
      have hw := hW
      rw [wgt] at hw
      have hkl := length_le_wgts kids
      obtain ⟨hL0, hL4⟩ := layT_rng (m := 4) (by omega) _ hY
      refine writeC_all _ hL0 hL4 w0 eb b d l s0 f e es kids v s w hv hY rfl (by omega) (fun i hi v' s' w' h1 h2 h3 => ?_) hB hl
      have h4 := wgts_take kids i hi
      have h5 := wgts_take_le kids (i + 1)
      exact ih i hi (layB_kid hY i hi) (coll_of hG i hi).1 (goks_at kids hok.2.2 i hi) (by omega) v' s' w' h1 h2 h3
    · obtain ⟨hl0, hl4, hl1⟩ := layB_own hY
      obtain ⟨hP, _⟩ := leaf_of hk (hl1 hk) (by omega) hok hG
      rw [wgt] at hW
      exact writeS_all k l hP.kind (hl1 hk) hl4 w0 eb b d s0 f e es kids v s w hE hv hok.1 hP (by omega) hB hl

/-- What a call of two results that makes memory leaves. -/
def Ret2 (v u : Value) (w : World) (e : Ending) (w' : World) : Prop := e = .returned (.tuple #[v, u]) ∧ Below w.heap.size w w'
set_option maxHeartbeats 1000000 in
theorem encode13 (eb : Nat) (d : Int) (g : G) (hY : layB 4 g = true) (hG : goodB g = true) (hok : gok g) (hW : wgt g ≤ 2097152) (hl : (wktT d g).length ≤ 140737488355328) (v : Value) (w : World) (hE : Enc w eb d) (hv : TAt w v g) :
    Calls Tryz.prog 13 #[.pointer (some ⟨eb, 0, none⟩), v] w (Ret2 (.string ⟨(wktT d g).toArray⟩) .nilIface w) := by
  have hB : Bld w w.heap.size [] (w.alloc (.cells #[.pointer none, .slice none 0 0] 62)) := ⟨(Below.refl _ w).alloc (Nat.le_refl _) _, Lib.fresh_isBuilder 62 5 w⟩
  have H := Lib.hid (write22 w eb w.heap.size d hE g hY hG hok hW v [] _ hv hB (by simpa using hl))
  clear hB hE hv hY hG hok hl hW
  go_enter Tryz.func13, Tryz.ntmps13
  go_wp2_with (fail)
  refine H.out.mono ?_
  rintro e1 w1 ⟨rfl, hB1⟩
  have HB1 := Lib.hid hB1
  clear hB1
  go_wp2_with (fail)
  refine (Tryz.Builder_String_any w.heap.size w.heap.size (wktT d g) w1 (by simpa using HB1.out.bld) HB1.out.below.size).mono ?_
  rintro e2 w2 ⟨rfl, hB2⟩
  have HB2 := Lib.hid (HB1.out.below.trans hB2)
  clear hB2
  go_wp2_with (fail)
  go_ret2
  exact ⟨rfl, HB2.out⟩
end Go.Proofs.YtokmamakmaojpaaGreatDoor

/- G3. -/
namespace Go.Proofs.YtokmamakmaojpaaGreatDoor
open Go.RowKit

/-- What stands in A stands in A'. -/
def Sub (A A' : World) : Prop := ∀ (k : Nat) (cs : Array Value) (T : TypeId) (fz : Nat × Nat), A.heap[k]? = some (.cells cs T fz) → 0 < cs.size → A'.heap[k]? = some (.cells cs T fz)
theorem Sub.cell {A A' : World} (h : Sub A A') {b o : Nat} {v : Value} (hc : A.cell? ⟨b, o, none⟩ = some v) : A'.cell? ⟨b, o, none⟩ = some v := by
  unfold World.cell? at hc
  simp only [Option.isSome_none] at hc
  split at hc
  · rename_i c T fz hb
    simp only [Bool.false_eq_true, if_false] at hc
    have := h b c T fz hb (by
      have := (Array.getElem?_eq_some_iff.1 hc).1
      omega)
    rw [Lib.cell_of_heap this]
    exact hc
  · exact absurd hc (by simp)
theorem Sub.lt {A A' : World} (h : Sub A A') {b o : Nat} {v : Value} (hc : A.cell? ⟨b, o, none⟩ = some v) : b < A'.heap.size := by
  have := h.cell hc
  unfold World.cell? at this
  simp only [Option.isSome_none] at this
  split at this
  · rename_i c T fz hb
    exact (Array.getElem?_eq_some_iff.1 hb).1
  · exact absurd this (by simp)
theorem RowAt.mono {A A' : World} (hs : Sub A A') {v : Value} {n sz : Nat} (hz : 0 < sz) {f : Nat → Nat → Value} (h : RowAt A v n sz f) : RowAt A' v n sz f := by
  obtain ⟨Ad, cap, h1, h2, h3, h4⟩ := h
  refine ⟨Ad, cap, h1, h2, h3, fun hn => ?_⟩
  obtain ⟨b, o, h5, h6, h7⟩ := h4 hn
  exact ⟨b, o, h5, hs.lt (h7 0 0 hn hz), fun i j hi hj => hs.cell (h7 i j hi hj)⟩
theorem TAt.mono {A A' : World} (hs : Sub A A') {v : Value} {g : G} (h : TAt A v g) : TAt A' v g := by
  induction h with
  | pt k l s f e es kids b v3 hk h0 h3 => exact .pt k l s f e es kids b v3 hk (hs _ _ _ _ h0 (by simp)) (h3.mono hs (by omega))
  | rg k l s f e es kids b v3 v4 hk h0 h3 h4 => exact .rg k l s f e es kids b v3 v4 hk (hs _ _ _ _ h0 (by simp)) (h3.mono hs (by omega)) (h4.mono hs (by omega))
  | mp l s f e es kids b v3 v5 ev h0 h3 h5 h6 => exact .mp l s f e es kids b v3 v5 ev (hs _ _ _ _ h0 (by simp)) (h3.mono hs (by omega)) (h5.mono hs (by omega)) (fun i hi => (h6 i hi).mono hs (by omega))
  | cl l s f e es kids b gv kv h0 hg hk ih => exact .cl l s f e es kids b gv kv (hs _ _ _ _ h0 (by simp)) (hg.mono hs (by omega)) ih

/-- A world in which the blocks of X are struck. -/
def hole (X : Nat → Bool) (w : World) : World := { w with heap := w.heap.mapIdx fun k o => if X k = true then .cells #[] 0 (0, 0) else o }
theorem hole_at (X : Nat → Bool) (w : World) (k : Nat) : (hole X w).heap[k]? = (w.heap[k]?).map fun o => if X k = true then .cells #[] 0 (0, 0) else o := by
  simp [hole, Array.getElem?_mapIdx]
theorem hole_keep {X : Nat → Bool} {w : World} {k : Nat} {o : Obj} (h : w.heap[k]? = some o) (hX : X k = false) : (hole X w).heap[k]? = some o := by
  rw [hole_at, h]
  simp [hX]
theorem hole_inv {X : Nat → Bool} {w : World} {k : Nat} {cs : Array Value} {T : TypeId} {fz : Nat × Nat} (h : (hole X w).heap[k]? = some (.cells cs T fz)) (h0 : 0 < cs.size) : X k = false ∧ w.heap[k]? = some (.cells cs T fz) := by
  rw [hole_at] at h
  cases hw : w.heap[k]? with
  | none => rw [hw] at h; simp at h
  | some o =>
    rw [hw] at h
    cases hX : X k with
    | true =>
      rw [hX] at h
      simp at h
      rw [h.1] at h0
      simp at h0
    | false =>
      rw [hX] at h
      simp at h
      exact ⟨rfl, by rw [h]⟩
/-- From a world with struck blocks to another: what is asked of the rest alone. -/
theorem Sub.hole {X Y : Nat → Bool} {w w' : World} (h : ∀ k o, w.heap[k]? = some o → X k = false → Y k = false ∧ w'.heap[k]? = some o) : Sub (hole X w) (hole Y w') := fun k cs T fz hk h0 => by
  obtain ⟨h1, h2⟩ := hole_inv hk h0
  obtain ⟨h3, h4⟩ := h k _ h2 h1
  exact hole_keep h4 h3
theorem Sub.unhole (X : Nat → Bool) (w : World) : Sub (Go.Proofs.YtokmamakmaojpaaGreatDoor.hole X w) w := fun _ _ _ _ hk h0 => (hole_inv hk h0).2
/-- The blocks below B struck: what is said there is of new blocks alone. -/
def oldB (B : Nat) : Nat → Bool := fun k => decide (k < B)
theorem oldB_no {B k : Nat} (h : B ≤ k) : oldB B k = false := decide_eq_false (by omega)
theorem oldB_inv {B k : Nat} (h : oldB B k = false) : B ≤ k := by
  have := of_decide_eq_false h
  omega
/-- New blocks stay, when a call leaves all that was. -/
theorem Sub.fresh {B B' : Nat} {w w' : World} (h : Below w.heap.size w w') (hB : B' ≤ B) : Sub (Go.Proofs.YtokmamakmaojpaaGreatDoor.hole (oldB B) w) (Go.Proofs.YtokmamakmaojpaaGreatDoor.hole (oldB B') w') :=
  Sub.hole fun k o hk hX => ⟨oldB_no (by have := oldB_inv hX; omega), (h.block k (Array.getElem?_eq_some_iff.1 hk).1).trans hk⟩
end Go.Proofs.YtokmamakmaojpaaGreatDoor

/- J0. -/
namespace Go.Proofs.YtokmamakmaojpaaGreatDoor
open Go.RowKit

theorem opt21 (eb pb : Nat) (d x : Int) (w : World) (h0 : w.cell? ⟨pb, 0, none⟩ = some (.int .i64 d)) (h1 : w.cell? ⟨eb, 0, none⟩ = some (.int .i64 x)) (hf : w.frozen? ⟨eb, 0, none⟩ = false) :
    Calls Tryz.prog 21 #[.pointer (some ⟨eb, 0, none⟩), .pointer (some ⟨pb, 0, none⟩)] w fun e w' => e = .returned (.tuple #[]) ∧ w.setCell ⟨eb, 0, none⟩ (.int .i64 d) = w' := by
  go_enter Tryz.func21, Tryz.ntmps21
  go_wp2
  go_end0
  exact ⟨rfl, rfl⟩
theorem opt12 (d : Int) (w : World) : Calls Tryz.prog 12 #[.int .i64 d] w fun e w' => e = .returned (.func (.func 21) #[] #[.pointer (some ⟨w.heap.size, 0, none⟩)]) ∧ w.alloc (.cells #[.int .i64 d] 3) = w' := by
  have hmf : ∀ (fn : Fn) (first cap : Array Value) (w : World), (Instr.makeFunc fn first cap).run Tryz.prog w = .ok (.func fn first cap) w := fun _ _ _ _ => rfl
  go_enter Tryz.func12, Tryz.ntmps12
  go_wp2
  go_ret
  exact ⟨rfl, rfl⟩
theorem new11 (d : Int) (ob pb : Nat) (w : World) (ho : w.cell? ⟨ob, 0, none⟩ = some (.func (.func 21) #[] #[.pointer (some ⟨pb, 0, none⟩)])) (hp : w.cell? ⟨pb, 0, none⟩ = some (.int .i64 d)) (hob : ob < w.heap.size) (hpb : pb < w.heap.size) :
    Calls Tryz.prog 11 #[.slice (some ⟨ob, 0, none⟩) 1 1] w fun e w' => e = .returned (.pointer (some ⟨w.heap.size, 0, none⟩)) ∧ w.alloc (.cells #[.int .i64 d] 58) = w' := by
  go_enter Tryz.func11, Tryz.ntmps11
  go_wp2_with (fail)
  go_loopg [10] 1 (fun gk vc wr => (gk = 1 ∧ vc = .int .i64 0 ∧ wr = w.alloc (.cells #[.int .i64 (-1)] 58)) ∨ (gk = 0 ∧ vc = .int .i64 1 ∧ wr = w.alloc (.cells #[.int .i64 d] 58)))
  case atStart => exact Or.inl ⟨rfl, rfl, rfl⟩
  case round =>
    have ho1 : ∀ cs T, (w.alloc (.cells cs T)).cell? ⟨ob, 0, none⟩ = some (.func (.func 21) #[] #[.pointer (some ⟨pb, 0, none⟩)]) := fun cs T => (World.cell?_alloc_lt w _ ⟨ob, 0, none⟩ hob).trans ho
    have hp1 : ∀ cs T, (w.alloc (.cells cs T)).cell? ⟨pb, 0, none⟩ = some (.int .i64 d) := fun cs T => (World.cell?_alloc_lt w _ ⟨pb, 0, none⟩ hpb).trans hp
    have HO1 := Lib.hid ho1
    have HP1 := Lib.hid hp1
    clear ho1 hp1 ho hp
    obtain ⟨rfl, rfl, rfl⟩ | ⟨rfl, rfl, rfl⟩ := hrel
    · have hx0 := HO1.out #[.int .i64 (-1)] 58
      have HOP := Lib.hid (opt21 w.heap.size pb d (-1) _ (HP1.out #[.int .i64 (-1)] 58) (by go_simp) (by go_simp))
      go_wp2_with (fail)
      refine HOP.out.mono ?_
      rintro e1 w1 ⟨rfl, hw1⟩
      have hw2 : w.alloc (.cells #[.int .i64 d] 58) = w1 := by
        rw [← hw1, World.setCell_alloc_new]
        rfl
      subst hw2
      clear hw1
      go_wp2_with (fail)
      go_roundg 0
      case measure => omega
      case rel => exact Or.inr ⟨rfl, by go_num, rfl⟩
    · go_wp2_with (fail)
      go_ret
      exact ⟨rfl, rfl⟩
end Go.Proofs.YtokmamakmaojpaaGreatDoor

/-
  K14. The specification: the parts, another kind.
  K15. The specification: the parts, another kind.
  K2. The specification: the parts of collections.
-/
import Derived.Test.YtokmamakmaojpaaGreatDoorM32
set_option linter.unusedVariables false
set_option linter.unusedSimpArgs false
set_option linter.unnecessarySimpa false
/- K14. -/
namespace Go.Proofs.YtokmamakmaojpaaGreatDoor
open Go.RowKit

set_option maxRecDepth 100000 in
set_option maxHeartbeats 4000000 in
theorem part_4 (l s : Int) (f : List Nat) (e : List Int) (es : List (List Int)) (kids : List G) (c : Nat → Value) (w : World) (hg : GAt w c (.mk 4 l s f e es kids)) (i : Nat) (hi : i < e.length) (a b : Nat) (ha0 : i = 0 → a = 0) (ha : i ≠ 0 → e.getD (i - 1) 0 = (a : Int))
    (hb : e.getD i 0 = (b : Int)) (hab : a ≤ b) (hbf : b ≤ f.length) (hf : f.length ≤ 2097152) (hen : e.length ≤ 2097152) : Calls Tryz.prog 72 #[.agg #[c 0, c 1, c 2, c 3, c 4, c 5, c 6], .int .i64 i] w (PartNew (.mk 1 l 0 (seg f a b) [] [] []) w) := by
  obtain ⟨A3, A4, A5, A6, c3, c4, c5, c6, e0, e1, e2, e3, e4, e5, e6, ho⟩ := hg.open_
  rw [e0, e1, e2, e3, e4, e5, e6]
  obtain ⟨i0, hi0, hz0, hz1, hz2⟩ := info_parts info146
  have hends := ho.ends
  have hflat := ho.flat
  have hrng := ho.rng.layout
  have hrf := ho.rng.flat
  obtain ⟨ne, hne⟩ : ∃ ne, e.length = ne := ⟨_, rfl⟩
  obtain ⟨nes, hnes⟩ : ∃ nes, es.length = nes := ⟨_, rfl⟩
  obtain ⟨nk, hnk⟩ : ∃ nk, kids.length = nk := ⟨_, rfl⟩
  obtain ⟨nf, hnf⟩ : ∃ nf, f.length = nf := ⟨_, rfl⟩
  rw [hne, hnes, hnk, hnf]
  rw [hne] at hi hends hen
  rw [hnf] at hbf hf hflat
  obtain ⟨b4, o4, rfl, hb4, q4⟩ := hends.one hi
  rw [intC, hb] at q4
  have HFL := Lib.hid hflat
  have HK78 : Hid (∀ w, Calls Tryz.prog 78 #[.int .i64 4] w (Same (.int .i64 1) w)) := Lib.hid fun w => by
    have h := kid78 4 (by omega) (by omega) w
    rwa [show kidF 4 = 1 from by decide] at h
  have HRNG := Lib.hid hrng
  have HRF := Lib.hid hrf
  have HSEG : Hid (seg f a b = seg f a b) := Lib.hid rfl
  obtain ⟨hc3a, hc3b⟩ := hflat.le
  obtain ⟨hc4a, hc4b⟩ := hends.le
  have HNF := Lib.hid hnf
  by_cases hi00 : i = 0
  · obtain rfl := ha0 hi00
    subst hi00
    have x1 : (0 : Int) < (ne : Int) := by omega
    have x2 : (0 : Int) ≤ (b : Int) := by omega
    have x3 : (b : Int) ≤ (c3 : Int) := by omega
    clear e0 e1 e2 e3 e4 e5 e6 hg ho hne hnes hnk hnf hends hflat hrng hrf ha ha0 hb
    rw [Nat.add_zero] at q4
    rw [show ((0 : Nat) : Int) = 0 from rfl]
    have z4 := fun x y => two_old w x y q4
    have hne4 : ¬ w.heap.size + 1 = b4 := by omega
    by_cases hm0 : b = 0
    · subst hm0
      cases A3 with
      | none =>
        go_enter Tryz.func72, Tryz.ntmps72
        go_upto_region 27 with (first | (go_at_call 78; refine (HK78.out _).mono ?_; rintro e1 w1 ⟨rfl, rfl⟩))
        go_region_held3 (fun w' => w'.cell? ⟨w.heap.size, 1, none⟩ = some (.int .i64 l) ∧ w'.cell? ⟨w.heap.size, 3, none⟩ = some (.slice none nf c3) ∧ w'.cell? ⟨w.heap.size, 4, none⟩ = some (.slice (some ⟨b4, o4, none⟩) ne c4) ∧ w'.cell? ⟨b4, o4, none⟩ = some (.int .i64 0)) (first | go_keep | exact ⟨k1, k3, k4, k7⟩) (fail)
        all_goals
          obtain ⟨u0, u1, u2, u3, u4, u5, u6, _⟩ := seven_cells (three_heap w (.cells #[Value.int IntKind.i64 4, .int .i64 l, .int .i64 s, .slice none nf c3, .slice (some ⟨b4, o4, none⟩) ne c4, .slice A5 nes c5, .slice A6 nk c6] 28) (.cells #[.int .i64 1, .int .i64 l, .int .i64 0, .slice (some ⟨w.heap.size + 1 + 1, 0, none⟩) 0 0, .slice none 0 0, .slice none 0 0, .slice none 0 0] 28) (.cells #[] 146)).2
          have END := Lib.hid (part_end (k := 1) (f := f) (a := 0) (b := 0) (m := 0) (by unfold RngI; omega) HRNG.out HRF.out (by omega) (by omega) (by rw [HNF.out]; omega) (own3 w (.cells #[Value.int IntKind.i64 4, .int .i64 l, .int .i64 s, .slice none nf c3, .slice (some ⟨b4, o4, none⟩) ne c4, .slice A5 nes c5, .slice A6 nk c6] 28) (.cells #[.int .i64 1, .int .i64 l, .int .i64 0, .slice (some ⟨w.heap.size + 1 + 1, 0, none⟩) 0 0, .slice none 0 0, .slice none 0 0, .slice none 0 0] 28)) (fun _ _ => rfl) (bel3 w _ _ _))
          go_wp2_with (fail)
          refine bodyPost_ret (res72 _ (w.heap.size + 1) _ rfl u0 u1 u2 u3 u4 u5 u6) rfl ?_
          exact END.out
      | some ad =>
        go_enter Tryz.func72, Tryz.ntmps72
        go_upto_region 27 with (first | (go_at_call 78; refine (HK78.out _).mono ?_; rintro e1 w1 ⟨rfl, rfl⟩))
        go_region_held3 (fun w' => w'.cell? ⟨w.heap.size, 1, none⟩ = some (.int .i64 l) ∧ w'.cell? ⟨w.heap.size, 3, none⟩ = some (.slice (some ad) nf c3) ∧ w'.cell? ⟨w.heap.size, 4, none⟩ = some (.slice (some ⟨b4, o4, none⟩) ne c4) ∧ w'.cell? ⟨b4, o4, none⟩ = some (.int .i64 0)) (first | go_keep | exact ⟨k1, k3, k4, k7⟩) ((refine step_append_own rfl (.tmp 94) (.tmp 103) 24 rfl (w.heap.size + 2) 146 i0 (.float .f64 0) 1 8 Tryz.underlying24 hi0 hz0 hz1 hz2 rfl (by decide) (.slice (some ⟨w.heap.size + 1 + 1, 0, none⟩) 0 0) 0 [] rfl (own3 w _ _) ad 0 c3 [] (by simp [Act.eval, Act.put]) rfl (fun j u h => nomatch h) (fun u h => nomatch h) (by unfold maxLen; omega) (by omega) (size3 w _ _ _) ?_; intro A9 k9 w9 hown hgrow; obtain ⟨m0, m1, m2, m3⟩ := grown_heap hgrow; obtain ⟨k0, k1, k2, k3, k4, k5, k6, kf⟩ := seven_cells m0; obtain ⟨r0, r1, r2, r3, r4, r5, r6, rf⟩ := seven_cells m1; have k7 := m2 _ _ _ q4; have HOWN := Lib.hid hown; have HB9 := Lib.hid m3; have HM1 := Lib.hid m1; clear hown hgrow m0 m1 m2 m3))
        all_goals
          obtain ⟨p1, p2, _⟩ := put7 HM1.out (.int .i64 1) (.int .i64 l) (.int .i64 0) (.slice A9 0 k9) (.slice none 0 0) (.slice none 0 0) (.slice none 0 0)
          obtain ⟨u0, u1, u2, u3, u4, u5, u6, _⟩ := seven_cells p1
          have hown := HOWN.out
          have END := Lib.hid (part_end (k := 1) (f := f) (a := 0) (b := 0) (m := 0) (by unfold RngI; omega) HRNG.out HRF.out (by omega) (by omega) (by rw [HNF.out]; omega) hown p2 (put7_below HB9.out (Nat.le_succ _) _ _ _ _ _ _ _))
          clear p1 p2 hown r0 r1 r2 r3 r4 r5 r6 rf
          go_wp2_with (fail)
          refine bodyPost_ret (res72 _ (w.heap.size + 1) _ rfl u0 u1 u2 u3 u4 u5 u6) rfl ?_
          exact END.out
    obtain ⟨b3, o3, rfl, _, _⟩ := HFL.out.at_ (i := 0) (by omega)
    have hnc : ¬ c3 = 0 := by omega
    go_enter Tryz.func72, Tryz.ntmps72
    go_upto_region 27 with (first | (go_at_call 78; refine (HK78.out _).mono ?_; rintro e1 w1 ⟨rfl, rfl⟩))
    go_region_held3 (fun w' => w'.cell? ⟨w.heap.size, 1, none⟩ = some (.int .i64 l) ∧ w'.cell? ⟨w.heap.size, 3, none⟩ = some (.slice (some ⟨b3, o3, none⟩) nf c3) ∧ w'.cell? ⟨w.heap.size, 4, none⟩ = some (.slice (some ⟨b4, o4, none⟩) ne c4) ∧ w'.cell? ⟨b4, o4, none⟩ = some (.int .i64 b)) (first | go_keep | exact ⟨k1, k3, k4, k7⟩) ((refine step_append_own rfl (.tmp 94) (.tmp 103) 24 rfl (w.heap.size + 2) 146 i0 (.float .f64 0) 1 8 Tryz.underlying24 hi0 hz0 hz1 hz2 rfl (by decide) (.slice (some ⟨w.heap.size + 1 + 1, 0, none⟩) 0 0) 0 [] rfl (own3 w _ _) ⟨b3, o3 + 0, none⟩ (b - 0) (c3 - 0) (segC f 0 (b - 0)) (by simp [Act.eval, Act.put, hnc]) (by rw [segC_length, Nat.mul_one]) (segC_cells (HFL.out.below (Nat.le_refl _) (bel3 w _ _ _)) (by omega)) (segC_one _ _ _) (by unfold maxLen; omega) (by omega) (size3 w _ _ _) ?_; intro A9 k9 w9 hown hgrow; obtain ⟨m0, m1, m2, m3⟩ := grown_heap hgrow; obtain ⟨k0, k1, k2, k3, k4, k5, k6, kf⟩ := seven_cells m0; obtain ⟨r0, r1, r2, r3, r4, r5, r6, rf⟩ := seven_cells m1; have k7 := m2 _ _ _ q4; have HOWN := Lib.hid hown; have HB9 := Lib.hid m3; have HM1 := Lib.hid m1; clear hown hgrow m0 m1 m2 m3))
    all_goals
      obtain ⟨p1, p2, _⟩ := put7 HM1.out (.int .i64 1) (.int .i64 l) (.int .i64 0) (.slice A9 (b - 0) k9) (.slice none 0 0) (.slice none 0 0) (.slice none 0 0)
      obtain ⟨u0, u1, u2, u3, u4, u5, u6, _⟩ := seven_cells p1
      have hown := HOWN.out
      rw [Nat.zero_add, List.nil_append] at hown
      have END := Lib.hid (part_end (k := 1) (by unfold RngI; omega) HRNG.out HRF.out rfl hab (by rw [HNF.out]; exact hbf) hown p2 (put7_below HB9.out (Nat.le_succ _) _ _ _ _ _ _ _))
      clear p1 p2 hown r0 r1 r2 r3 r4 r5 r6 rf
      go_wp2_with (fail)
      refine bodyPost_ret (res72 _ (w.heap.size + 1) _ rfl u0 u1 u2 u3 u4 u5 u6) rfl ?_
      exact END.out
  · obtain ⟨j, rfl⟩ : ∃ j, i = j + 1 := ⟨i - 1, by omega⟩
    have ha1 : e.getD j 0 = (a : Int) := ha hi00
    obtain ⟨b4', o4', h4', _, q4'⟩ := hends.one (i := j) (by omega)
    injection h4' with h4'
    injection h4' with h4' h4''
    subst h4' h4''
    rw [intC, ha1] at q4'
    clear e0 e1 e2 e3 e4 e5 e6 hg ho hne hnes hnk hnf hends hflat hrng hrf ha ha0 hb ha1 hi00
    have z4 := fun x y => two_old w x y q4
    have x1 : (j : Int) + 1 < (ne : Int) := by omega
    have x2 : (0 : Int) ≤ (j : Int) + 1 := by omega
    have x3 : (b : Int) ≤ (c3 : Int) := by omega
    have x4 : (a : Int) ≤ (b : Int) := by omega
    have x5 : ((j : Int) + 1).toNat = j + 1 := by omega
    have x6 : (0 : Int) ≤ (a : Int) := by omega
    have z4' := fun x y => two_old w x y q4'
    have hne4 : ¬ w.heap.size + 1 = b4 := by omega
    by_cases hm0 : a = b
    · subst hm0
      cases A3 with
      | none =>
        go_enter Tryz.func72, Tryz.ntmps72
        go_upto_region 27 with (first | (go_at_call 78; refine (HK78.out _).mono ?_; rintro e1 w1 ⟨rfl, rfl⟩))
        go_region_held3 (fun w' => w'.cell? ⟨w.heap.size, 1, none⟩ = some (.int .i64 l) ∧ w'.cell? ⟨w.heap.size, 3, none⟩ = some (.slice none nf c3) ∧ w'.cell? ⟨w.heap.size, 4, none⟩ = some (.slice (some ⟨b4, o4, none⟩) ne c4) ∧ w'.cell? ⟨b4, o4 + (j + 1), none⟩ = some (.int .i64 a)) (first | go_keep | exact ⟨k1, k3, k4, k7⟩) (fail)
        all_goals
          obtain ⟨u0, u1, u2, u3, u4, u5, u6, _⟩ := seven_cells (three_heap w (.cells #[Value.int IntKind.i64 4, .int .i64 l, .int .i64 s, .slice none nf c3, .slice (some ⟨b4, o4, none⟩) ne c4, .slice A5 nes c5, .slice A6 nk c6] 28) (.cells #[.int .i64 1, .int .i64 l, .int .i64 0, .slice (some ⟨w.heap.size + 1 + 1, 0, none⟩) 0 0, .slice none 0 0, .slice none 0 0, .slice none 0 0] 28) (.cells #[] 146)).2
          have END := Lib.hid (part_end (k := 1) (f := f) (a := a) (b := a) (m := 0) (by unfold RngI; omega) HRNG.out HRF.out (by omega) (by omega) (by rw [HNF.out]; omega) (own3 w (.cells #[Value.int IntKind.i64 4, .int .i64 l, .int .i64 s, .slice none nf c3, .slice (some ⟨b4, o4, none⟩) ne c4, .slice A5 nes c5, .slice A6 nk c6] 28) (.cells #[.int .i64 1, .int .i64 l, .int .i64 0, .slice (some ⟨w.heap.size + 1 + 1, 0, none⟩) 0 0, .slice none 0 0, .slice none 0 0, .slice none 0 0] 28)) (fun _ _ => rfl) (bel3 w _ _ _))
          go_wp2_with (fail)
          refine bodyPost_ret (res72 _ (w.heap.size + 1) _ rfl u0 u1 u2 u3 u4 u5 u6) rfl ?_
          exact END.out
      | some ad =>
        by_cases hq : c3 = a
        · go_enter Tryz.func72, Tryz.ntmps72
          go_upto_region 27 with (first | (go_at_call 78; refine (HK78.out _).mono ?_; rintro e1 w1 ⟨rfl, rfl⟩))
          go_region_held3 (fun w' => w'.cell? ⟨w.heap.size, 1, none⟩ = some (.int .i64 l) ∧ w'.cell? ⟨w.heap.size, 3, none⟩ = some (.slice (some ad) nf c3) ∧ w'.cell? ⟨w.heap.size, 4, none⟩ = some (.slice (some ⟨b4, o4, none⟩) ne c4) ∧ w'.cell? ⟨b4, o4 + (j + 1), none⟩ = some (.int .i64 a)) (first | go_keep | exact ⟨k1, k3, k4, k7⟩) ((refine step_append_own rfl (.tmp 94) (.tmp 103) 24 rfl (w.heap.size + 2) 146 i0 (.float .f64 0) 1 8 Tryz.underlying24 hi0 hz0 hz1 hz2 rfl (by decide) (.slice (some ⟨w.heap.size + 1 + 1, 0, none⟩) 0 0) 0 [] rfl (own3 w _ _) ad 0 (c3 - a) [] (by simp [Act.eval, Act.put, hq]) rfl (fun j u h => nomatch h) (fun u h => nomatch h) (by unfold maxLen; omega) (by omega) (size3 w _ _ _) ?_; intro A9 k9 w9 hown hgrow; obtain ⟨m0, m1, m2, m3⟩ := grown_heap hgrow; obtain ⟨k0, k1, k2, k3, k4, k5, k6, kf⟩ := seven_cells m0; obtain ⟨r0, r1, r2, r3, r4, r5, r6, rf⟩ := seven_cells m1; have k7 := m2 _ _ _ q4; have HOWN := Lib.hid hown; have HB9 := Lib.hid m3; have HM1 := Lib.hid m1; clear hown hgrow m0 m1 m2 m3))
          all_goals
            obtain ⟨p1, p2, _⟩ := put7 HM1.out (.int .i64 1) (.int .i64 l) (.int .i64 0) (.slice A9 0 k9) (.slice none 0 0) (.slice none 0 0) (.slice none 0 0)
            obtain ⟨u0, u1, u2, u3, u4, u5, u6, _⟩ := seven_cells p1
            have hown := HOWN.out
            have END := Lib.hid (part_end (k := 1) (f := f) (a := a) (b := a) (m := 0) (by unfold RngI; omega) HRNG.out HRF.out (by omega) (by omega) (by rw [HNF.out]; omega) hown p2 (put7_below HB9.out (Nat.le_succ _) _ _ _ _ _ _ _))
            clear p1 p2 hown r0 r1 r2 r3 r4 r5 r6 rf
            go_wp2_with (fail)
            refine bodyPost_ret (res72 _ (w.heap.size + 1) _ rfl u0 u1 u2 u3 u4 u5 u6) rfl ?_
            exact END.out
        · go_enter Tryz.func72, Tryz.ntmps72
          go_upto_region 27 with (first | (go_at_call 78; refine (HK78.out _).mono ?_; rintro e1 w1 ⟨rfl, rfl⟩))
          go_region_held3 (fun w' => w'.cell? ⟨w.heap.size, 1, none⟩ = some (.int .i64 l) ∧ w'.cell? ⟨w.heap.size, 3, none⟩ = some (.slice (some ad) nf c3) ∧ w'.cell? ⟨w.heap.size, 4, none⟩ = some (.slice (some ⟨b4, o4, none⟩) ne c4) ∧ w'.cell? ⟨b4, o4 + (j + 1), none⟩ = some (.int .i64 a)) (first | go_keep | exact ⟨k1, k3, k4, k7⟩) ((refine step_append_own rfl (.tmp 94) (.tmp 103) 24 rfl (w.heap.size + 2) 146 i0 (.float .f64 0) 1 8 Tryz.underlying24 hi0 hz0 hz1 hz2 rfl (by decide) (.slice (some ⟨w.heap.size + 1 + 1, 0, none⟩) 0 0) 0 [] rfl (own3 w _ _) (ad.add a) 0 (c3 - a) [] (by simp [Act.eval, Act.put, hq]) rfl (fun j u h => nomatch h) (fun u h => nomatch h) (by unfold maxLen; omega) (by omega) (size3 w _ _ _) ?_; intro A9 k9 w9 hown hgrow; obtain ⟨m0, m1, m2, m3⟩ := grown_heap hgrow; obtain ⟨k0, k1, k2, k3, k4, k5, k6, kf⟩ := seven_cells m0; obtain ⟨r0, r1, r2, r3, r4, r5, r6, rf⟩ := seven_cells m1; have k7 := m2 _ _ _ q4; have HOWN := Lib.hid hown; have HB9 := Lib.hid m3; have HM1 := Lib.hid m1; clear hown hgrow m0 m1 m2 m3))
          all_goals
            obtain ⟨p1, p2, _⟩ := put7 HM1.out (.int .i64 1) (.int .i64 l) (.int .i64 0) (.slice A9 0 k9) (.slice none 0 0) (.slice none 0 0) (.slice none 0 0)
            obtain ⟨u0, u1, u2, u3, u4, u5, u6, _⟩ := seven_cells p1
            have hown := HOWN.out
            have END := Lib.hid (part_end (k := 1) (f := f) (a := a) (b := a) (m := 0) (by unfold RngI; omega) HRNG.out HRF.out (by omega) (by omega) (by rw [HNF.out]; omega) hown p2 (put7_below HB9.out (Nat.le_succ _) _ _ _ _ _ _ _))
            clear p1 p2 hown r0 r1 r2 r3 r4 r5 r6 rf
            go_wp2_with (fail)
            refine bodyPost_ret (res72 _ (w.heap.size + 1) _ rfl u0 u1 u2 u3 u4 u5 u6) rfl ?_
            exact END.out
    obtain ⟨b3, o3, rfl, _, _⟩ := HFL.out.at_ (i := 0) (by omega)
    have hnc : ¬ c3 = a := by omega
    go_enter Tryz.func72, Tryz.ntmps72
    go_upto_region 27 with (first | (go_at_call 78; refine (HK78.out _).mono ?_; rintro e1 w1 ⟨rfl, rfl⟩))
    go_region_held3 (fun w' => w'.cell? ⟨w.heap.size, 1, none⟩ = some (.int .i64 l) ∧ w'.cell? ⟨w.heap.size, 3, none⟩ = some (.slice (some ⟨b3, o3, none⟩) nf c3) ∧ w'.cell? ⟨w.heap.size, 4, none⟩ = some (.slice (some ⟨b4, o4, none⟩) ne c4) ∧ w'.cell? ⟨b4, o4 + (j + 1), none⟩ = some (.int .i64 b)) (first | go_keep | exact ⟨k1, k3, k4, k7⟩) ((refine step_append_own rfl (.tmp 94) (.tmp 103) 24 rfl (w.heap.size + 2) 146 i0 (.float .f64 0) 1 8 Tryz.underlying24 hi0 hz0 hz1 hz2 rfl (by decide) (.slice (some ⟨w.heap.size + 1 + 1, 0, none⟩) 0 0) 0 [] rfl (own3 w _ _) ⟨b3, o3 + a, none⟩ (b - a) (c3 - a) (segC f a (b - a)) (by simp [Act.eval, Act.put, hnc]) (by rw [segC_length, Nat.mul_one]) (segC_cells (HFL.out.below (Nat.le_refl _) (bel3 w _ _ _)) (by omega)) (segC_one _ _ _) (by unfold maxLen; omega) (by omega) (size3 w _ _ _) ?_; intro A9 k9 w9 hown hgrow; obtain ⟨m0, m1, m2, m3⟩ := grown_heap hgrow; obtain ⟨k0, k1, k2, k3, k4, k5, k6, kf⟩ := seven_cells m0; obtain ⟨r0, r1, r2, r3, r4, r5, r6, rf⟩ := seven_cells m1; have k7 := m2 _ _ _ q4; have HOWN := Lib.hid hown; have HB9 := Lib.hid m3; have HM1 := Lib.hid m1; clear hown hgrow m0 m1 m2 m3))
    all_goals
      obtain ⟨p1, p2, _⟩ := put7 HM1.out (.int .i64 1) (.int .i64 l) (.int .i64 0) (.slice A9 (b - a) k9) (.slice none 0 0) (.slice none 0 0) (.slice none 0 0)
      obtain ⟨u0, u1, u2, u3, u4, u5, u6, _⟩ := seven_cells p1
      have hown := HOWN.out
      rw [Nat.zero_add, List.nil_append] at hown
      have END := Lib.hid (part_end (k := 1) (by unfold RngI; omega) HRNG.out HRF.out rfl hab (by rw [HNF.out]; exact hbf) hown p2 (put7_below HB9.out (Nat.le_succ _) _ _ _ _ _ _ _))
      clear p1 p2 hown r0 r1 r2 r3 r4 r5 r6 rf
      go_wp2_with (fail)
      refine bodyPost_ret (res72 _ (w.heap.size + 1) _ rfl u0 u1 u2 u3 u4 u5 u6) rfl ?_
      exact END.out
end Go.Proofs.YtokmamakmaojpaaGreatDoor

/- K15. -/
namespace Go.Proofs.YtokmamakmaojpaaGreatDoor
open Go.RowKit

set_option maxRecDepth 100000 in
set_option maxHeartbeats 4000000 in
theorem part_5 (l s : Int) (f : List Nat) (e : List Int) (es : List (List Int)) (kids : List G) (c : Nat → Value) (w : World) (hg : GAt w c (.mk 5 l s f e es kids)) (i : Nat) (hi : i < e.length) (a b : Nat) (ha0 : i = 0 → a = 0) (ha : i ≠ 0 → e.getD (i - 1) 0 = (a : Int))
    (hb : e.getD i 0 = (b : Int)) (hab : a ≤ b) (hbf : b ≤ f.length) (hf : f.length ≤ 2097152) (hen : e.length ≤ 2097152) : Calls Tryz.prog 72 #[.agg #[c 0, c 1, c 2, c 3, c 4, c 5, c 6], .int .i64 i] w (PartNew (.mk 2 l 0 (seg f a b) [] [] []) w) := by
  obtain ⟨A3, A4, A5, A6, c3, c4, c5, c6, e0, e1, e2, e3, e4, e5, e6, ho⟩ := hg.open_
  rw [e0, e1, e2, e3, e4, e5, e6]
  obtain ⟨i0, hi0, hz0, hz1, hz2⟩ := info_parts info146
  have hends := ho.ends
  have hflat := ho.flat
  have hrng := ho.rng.layout
  have hrf := ho.rng.flat
  obtain ⟨ne, hne⟩ : ∃ ne, e.length = ne := ⟨_, rfl⟩
  obtain ⟨nes, hnes⟩ : ∃ nes, es.length = nes := ⟨_, rfl⟩
  obtain ⟨nk, hnk⟩ : ∃ nk, kids.length = nk := ⟨_, rfl⟩
  obtain ⟨nf, hnf⟩ : ∃ nf, f.length = nf := ⟨_, rfl⟩
  rw [hne, hnes, hnk, hnf]
  rw [hne] at hi hends hen
  rw [hnf] at hbf hf hflat
  obtain ⟨b4, o4, rfl, hb4, q4⟩ := hends.one hi
  rw [intC, hb] at q4
  have HFL := Lib.hid hflat
  have HK78 : Hid (∀ w, Calls Tryz.prog 78 #[.int .i64 5] w (Same (.int .i64 2) w)) := Lib.hid fun w => by
    have h := kid78 5 (by omega) (by omega) w
    rwa [show kidF 5 = 2 from by decide] at h
  have HRNG := Lib.hid hrng
  have HRF := Lib.hid hrf
  have HSEG : Hid (seg f a b = seg f a b) := Lib.hid rfl
  obtain ⟨hc3a, hc3b⟩ := hflat.le
  obtain ⟨hc4a, hc4b⟩ := hends.le
  have HNF := Lib.hid hnf
  by_cases hi00 : i = 0
  · obtain rfl := ha0 hi00
    subst hi00
    have x1 : (0 : Int) < (ne : Int) := by omega
    have x2 : (0 : Int) ≤ (b : Int) := by omega
    have x3 : (b : Int) ≤ (c3 : Int) := by omega
    clear e0 e1 e2 e3 e4 e5 e6 hg ho hne hnes hnk hnf hends hflat hrng hrf ha ha0 hb
    rw [Nat.add_zero] at q4
    rw [show ((0 : Nat) : Int) = 0 from rfl]
    have z4 := fun x y => two_old w x y q4
    have hne4 : ¬ w.heap.size + 1 = b4 := by omega
    by_cases hm0 : b = 0
    · subst hm0
      cases A3 with
      | none =>
        go_enter Tryz.func72, Tryz.ntmps72
        go_upto_region 27 with (first | (go_at_call 78; refine (HK78.out _).mono ?_; rintro e1 w1 ⟨rfl, rfl⟩))
        go_region_held3 (fun w' => w'.cell? ⟨w.heap.size, 1, none⟩ = some (.int .i64 l) ∧ w'.cell? ⟨w.heap.size, 3, none⟩ = some (.slice none nf c3) ∧ w'.cell? ⟨w.heap.size, 4, none⟩ = some (.slice (some ⟨b4, o4, none⟩) ne c4) ∧ w'.cell? ⟨b4, o4, none⟩ = some (.int .i64 0)) (first | go_keep | exact ⟨k1, k3, k4, k7⟩) (fail)
        all_goals
          obtain ⟨u0, u1, u2, u3, u4, u5, u6, _⟩ := seven_cells (three_heap w (.cells #[Value.int IntKind.i64 5, .int .i64 l, .int .i64 s, .slice none nf c3, .slice (some ⟨b4, o4, none⟩) ne c4, .slice A5 nes c5, .slice A6 nk c6] 28) (.cells #[.int .i64 2, .int .i64 l, .int .i64 0, .slice (some ⟨w.heap.size + 1 + 1, 0, none⟩) 0 0, .slice none 0 0, .slice none 0 0, .slice none 0 0] 28) (.cells #[] 146)).2
          have END := Lib.hid (part_end (k := 2) (f := f) (a := 0) (b := 0) (m := 0) (by unfold RngI; omega) HRNG.out HRF.out (by omega) (by omega) (by rw [HNF.out]; omega) (own3 w (.cells #[Value.int IntKind.i64 5, .int .i64 l, .int .i64 s, .slice none nf c3, .slice (some ⟨b4, o4, none⟩) ne c4, .slice A5 nes c5, .slice A6 nk c6] 28) (.cells #[.int .i64 2, .int .i64 l, .int .i64 0, .slice (some ⟨w.heap.size + 1 + 1, 0, none⟩) 0 0, .slice none 0 0, .slice none 0 0, .slice none 0 0] 28)) (fun _ _ => rfl) (bel3 w _ _ _))
          go_wp2_with (fail)
          refine bodyPost_ret (res72 _ (w.heap.size + 1) _ rfl u0 u1 u2 u3 u4 u5 u6) rfl ?_
          exact END.out
      | some ad =>
        go_enter Tryz.func72, Tryz.ntmps72
        go_upto_region 27 with (first | (go_at_call 78; refine (HK78.out _).mono ?_; rintro e1 w1 ⟨rfl, rfl⟩))
        go_region_held3 (fun w' => w'.cell? ⟨w.heap.size, 1, none⟩ = some (.int .i64 l) ∧ w'.cell? ⟨w.heap.size, 3, none⟩ = some (.slice (some ad) nf c3) ∧ w'.cell? ⟨w.heap.size, 4, none⟩ = some (.slice (some ⟨b4, o4, none⟩) ne c4) ∧ w'.cell? ⟨b4, o4, none⟩ = some (.int .i64 0)) (first | go_keep | exact ⟨k1, k3, k4, k7⟩) ((refine step_append_own rfl (.tmp 94) (.tmp 103) 24 rfl (w.heap.size + 2) 146 i0 (.float .f64 0) 1 8 Tryz.underlying24 hi0 hz0 hz1 hz2 rfl (by decide) (.slice (some ⟨w.heap.size + 1 + 1, 0, none⟩) 0 0) 0 [] rfl (own3 w _ _) ad 0 c3 [] (by simp [Act.eval, Act.put]) rfl (fun j u h => nomatch h) (fun u h => nomatch h) (by unfold maxLen; omega) (by omega) (size3 w _ _ _) ?_; intro A9 k9 w9 hown hgrow; obtain ⟨m0, m1, m2, m3⟩ := grown_heap hgrow; obtain ⟨k0, k1, k2, k3, k4, k5, k6, kf⟩ := seven_cells m0; obtain ⟨r0, r1, r2, r3, r4, r5, r6, rf⟩ := seven_cells m1; have k7 := m2 _ _ _ q4; have HOWN := Lib.hid hown; have HB9 := Lib.hid m3; have HM1 := Lib.hid m1; clear hown hgrow m0 m1 m2 m3))
        all_goals
          obtain ⟨p1, p2, _⟩ := put7 HM1.out (.int .i64 2) (.int .i64 l) (.int .i64 0) (.slice A9 0 k9) (.slice none 0 0) (.slice none 0 0) (.slice none 0 0)
          obtain ⟨u0, u1, u2, u3, u4, u5, u6, _⟩ := seven_cells p1
          have hown := HOWN.out
          have END := Lib.hid (part_end (k := 2) (f := f) (a := 0) (b := 0) (m := 0) (by unfold RngI; omega) HRNG.out HRF.out (by omega) (by omega) (by rw [HNF.out]; omega) hown p2 (put7_below HB9.out (Nat.le_succ _) _ _ _ _ _ _ _))
          clear p1 p2 hown r0 r1 r2 r3 r4 r5 r6 rf
          go_wp2_with (fail)
          refine bodyPost_ret (res72 _ (w.heap.size + 1) _ rfl u0 u1 u2 u3 u4 u5 u6) rfl ?_
          exact END.out
    obtain ⟨b3, o3, rfl, _, _⟩ := HFL.out.at_ (i := 0) (by omega)
    have hnc : ¬ c3 = 0 := by omega
    go_enter Tryz.func72, Tryz.ntmps72
    go_upto_region 27 with (first | (go_at_call 78; refine (HK78.out _).mono ?_; rintro e1 w1 ⟨rfl, rfl⟩))
    go_region_held3 (fun w' => w'.cell? ⟨w.heap.size, 1, none⟩ = some (.int .i64 l) ∧ w'.cell? ⟨w.heap.size, 3, none⟩ = some (.slice (some ⟨b3, o3, none⟩) nf c3) ∧ w'.cell? ⟨w.heap.size, 4, none⟩ = some (.slice (some ⟨b4, o4, none⟩) ne c4) ∧ w'.cell? ⟨b4, o4, none⟩ = some (.int .i64 b)) (first | go_keep | exact ⟨k1, k3, k4, k7⟩) ((refine step_append_own rfl (.tmp 94) (.tmp 103) 24 rfl (w.heap.size + 2) 146 i0 (.float .f64 0) 1 8 Tryz.underlying24 hi0 hz0 hz1 hz2 rfl (by decide) (.slice (some ⟨w.heap.size + 1 + 1, 0, none⟩) 0 0) 0 [] rfl (own3 w _ _) ⟨b3, o3 + 0, none⟩ (b - 0) (c3 - 0) (segC f 0 (b - 0)) (by simp [Act.eval, Act.put, hnc]) (by rw [segC_length, Nat.mul_one]) (segC_cells (HFL.out.below (Nat.le_refl _) (bel3 w _ _ _)) (by omega)) (segC_one _ _ _) (by unfold maxLen; omega) (by omega) (size3 w _ _ _) ?_; intro A9 k9 w9 hown hgrow; obtain ⟨m0, m1, m2, m3⟩ := grown_heap hgrow; obtain ⟨k0, k1, k2, k3, k4, k5, k6, kf⟩ := seven_cells m0; obtain ⟨r0, r1, r2, r3, r4, r5, r6, rf⟩ := seven_cells m1; have k7 := m2 _ _ _ q4; have HOWN := Lib.hid hown; have HB9 := Lib.hid m3; have HM1 := Lib.hid m1; clear hown hgrow m0 m1 m2 m3))
    all_goals
      obtain ⟨p1, p2, _⟩ := put7 HM1.out (.int .i64 2) (.int .i64 l) (.int .i64 0) (.slice A9 (b - 0) k9) (.slice none 0 0) (.slice none 0 0) (.slice none 0 0)
      obtain ⟨u0, u1, u2, u3, u4, u5, u6, _⟩ := seven_cells p1
      have hown := HOWN.out
      rw [Nat.zero_add, List.nil_append] at hown
      have END := Lib.hid (part_end (k := 2) (by unfold RngI; omega) HRNG.out HRF.out rfl hab (by rw [HNF.out]; exact hbf) hown p2 (put7_below HB9.out (Nat.le_succ _) _ _ _ _ _ _ _))
      clear p1 p2 hown r0 r1 r2 r3 r4 r5 r6 rf
      go_wp2_with (fail)
      refine bodyPost_ret (res72 _ (w.heap.size + 1) _ rfl u0 u1 u2 u3 u4 u5 u6) rfl ?_
      exact END.out
  · obtain ⟨j, rfl⟩ : ∃ j, i = j + 1 := ⟨i - 1, by omega⟩
    have ha1 : e.getD j 0 = (a : Int) := ha hi00
    obtain ⟨b4', o4', h4', _, q4'⟩ := hends.one (i := j) (by omega)
    injection h4' with h4'
    injection h4' with h4' h4''
    subst h4' h4''
    rw [intC, ha1] at q4'
    clear e0 e1 e2 e3 e4 e5 e6 hg ho hne hnes hnk hnf hends hflat hrng hrf ha ha0 hb ha1 hi00
    have z4 := fun x y => two_old w x y q4
    have x1 : (j : Int) + 1 < (ne : Int) := by omega
    have x2 : (0 : Int) ≤ (j : Int) + 1 := by omega
    have x3 : (b : Int) ≤ (c3 : Int) := by omega
    have x4 : (a : Int) ≤ (b : Int) := by omega
    have x5 : ((j : Int) + 1).toNat = j + 1 := by omega
    have x6 : (0 : Int) ≤ (a : Int) := by omega
    have z4' := fun x y => two_old w x y q4'
    have hne4 : ¬ w.heap.size + 1 = b4 := by omega
    by_cases hm0 : a = b
    · subst hm0
      cases A3 with
      | none =>
        go_enter Tryz.func72, Tryz.ntmps72
        go_upto_region 27 with (first | (go_at_call 78; refine (HK78.out _).mono ?_; rintro e1 w1 ⟨rfl, rfl⟩))
        go_region_held3 (fun w' => w'.cell? ⟨w.heap.size, 1, none⟩ = some (.int .i64 l) ∧ w'.cell? ⟨w.heap.size, 3, none⟩ = some (.slice none nf c3) ∧ w'.cell? ⟨w.heap.size, 4, none⟩ = some (.slice (some ⟨b4, o4, none⟩) ne c4) ∧ w'.cell? ⟨b4, o4 + (j + 1), none⟩ = some (.int .i64 a)) (first | go_keep | exact ⟨k1, k3, k4, k7⟩) (fail)
        all_goals
          obtain ⟨u0, u1, u2, u3, u4, u5, u6, _⟩ := seven_cells (three_heap w (.cells #[Value.int IntKind.i64 5, .int .i64 l, .int .i64 s, .slice none nf c3, .slice (some ⟨b4, o4, none⟩) ne c4, .slice A5 nes c5, .slice A6 nk c6] 28) (.cells #[.int .i64 2, .int .i64 l, .int .i64 0, .slice (some ⟨w.heap.size + 1 + 1, 0, none⟩) 0 0, .slice none 0 0, .slice none 0 0, .slice none 0 0] 28) (.cells #[] 146)).2
          have END := Lib.hid (part_end (k := 2) (f := f) (a := a) (b := a) (m := 0) (by unfold RngI; omega) HRNG.out HRF.out (by omega) (by omega) (by rw [HNF.out]; omega) (own3 w (.cells #[Value.int IntKind.i64 5, .int .i64 l, .int .i64 s, .slice none nf c3, .slice (some ⟨b4, o4, none⟩) ne c4, .slice A5 nes c5, .slice A6 nk c6] 28) (.cells #[.int .i64 2, .int .i64 l, .int .i64 0, .slice (some ⟨w.heap.size + 1 + 1, 0, none⟩) 0 0, .slice none 0 0, .slice none 0 0, .slice none 0 0] 28)) (fun _ _ => rfl) (bel3 w _ _ _))
          go_wp2_with (fail)
          refine bodyPost_ret (res72 _ (w.heap.size + 1) _ rfl u0 u1 u2 u3 u4 u5 u6) rfl ?_
          exact END.out
      | some ad =>
        by_cases hq : c3 = a
        · go_enter Tryz.func72, Tryz.ntmps72
          go_upto_region 27 with (first | (go_at_call 78; refine (HK78.out _).mono ?_; rintro e1 w1 ⟨rfl, rfl⟩))
          go_region_held3 (fun w' => w'.cell? ⟨w.heap.size, 1, none⟩ = some (.int .i64 l) ∧ w'.cell? ⟨w.heap.size, 3, none⟩ = some (.slice (some ad) nf c3) ∧ w'.cell? ⟨w.heap.size, 4, none⟩ = some (.slice (some ⟨b4, o4, none⟩) ne c4) ∧ w'.cell? ⟨b4, o4 + (j + 1), none⟩ = some (.int .i64 a)) (first | go_keep | exact ⟨k1, k3, k4, k7⟩) ((refine step_append_own rfl (.tmp 94) (.tmp 103) 24 rfl (w.heap.size + 2) 146 i0 (.float .f64 0) 1 8 Tryz.underlying24 hi0 hz0 hz1 hz2 rfl (by decide) (.slice (some ⟨w.heap.size + 1 + 1, 0, none⟩) 0 0) 0 [] rfl (own3 w _ _) ad 0 (c3 - a) [] (by simp [Act.eval, Act.put, hq]) rfl (fun j u h => nomatch h) (fun u h => nomatch h) (by unfold maxLen; omega) (by omega) (size3 w _ _ _) ?_; intro A9 k9 w9 hown hgrow; obtain ⟨m0, m1, m2, m3⟩ := grown_heap hgrow; obtain ⟨k0, k1, k2, k3, k4, k5, k6, kf⟩ := seven_cells m0; obtain ⟨r0, r1, r2, r3, r4, r5, r6, rf⟩ := seven_cells m1; have k7 := m2 _ _ _ q4; have HOWN := Lib.hid hown; have HB9 := Lib.hid m3; have HM1 := Lib.hid m1; clear hown hgrow m0 m1 m2 m3))
          all_goals
            obtain ⟨p1, p2, _⟩ := put7 HM1.out (.int .i64 2) (.int .i64 l) (.int .i64 0) (.slice A9 0 k9) (.slice none 0 0) (.slice none 0 0) (.slice none 0 0)
            obtain ⟨u0, u1, u2, u3, u4, u5, u6, _⟩ := seven_cells p1
            have hown := HOWN.out
            have END := Lib.hid (part_end (k := 2) (f := f) (a := a) (b := a) (m := 0) (by unfold RngI; omega) HRNG.out HRF.out (by omega) (by omega) (by rw [HNF.out]; omega) hown p2 (put7_below HB9.out (Nat.le_succ _) _ _ _ _ _ _ _))
            clear p1 p2 hown r0 r1 r2 r3 r4 r5 r6 rf
            go_wp2_with (fail)
            refine bodyPost_ret (res72 _ (w.heap.size + 1) _ rfl u0 u1 u2 u3 u4 u5 u6) rfl ?_
            exact END.out
        · go_enter Tryz.func72, Tryz.ntmps72
          go_upto_region 27 with (first | (go_at_call 78; refine (HK78.out _).mono ?_; rintro e1 w1 ⟨rfl, rfl⟩))
          go_region_held3 (fun w' => w'.cell? ⟨w.heap.size, 1, none⟩ = some (.int .i64 l) ∧ w'.cell? ⟨w.heap.size, 3, none⟩ = some (.slice (some ad) nf c3) ∧ w'.cell? ⟨w.heap.size, 4, none⟩ = some (.slice (some ⟨b4, o4, none⟩) ne c4) ∧ w'.cell? ⟨b4, o4 + (j + 1), none⟩ = some (.int .i64 a)) (first | go_keep | exact ⟨k1, k3, k4, k7⟩) ((refine step_append_own rfl (.tmp 94) (.tmp 103) 24 rfl (w.heap.size + 2) 146 i0 (.float .f64 0) 1 8 Tryz.underlying24 hi0 hz0 hz1 hz2 rfl (by decide) (.slice (some ⟨w.heap.size + 1 + 1, 0, none⟩) 0 0) 0 [] rfl (own3 w _ _) (ad.add a) 0 (c3 - a) [] (by simp [Act.eval, Act.put, hq]) rfl (fun j u h => nomatch h) (fun u h => nomatch h) (by unfold maxLen; omega) (by omega) (size3 w _ _ _) ?_; intro A9 k9 w9 hown hgrow; obtain ⟨m0, m1, m2, m3⟩ := grown_heap hgrow; obtain ⟨k0, k1, k2, k3, k4, k5, k6, kf⟩ := seven_cells m0; obtain ⟨r0, r1, r2, r3, r4, r5, r6, rf⟩ := seven_cells m1; have k7 := m2 _ _ _ q4; have HOWN := Lib.hid hown; have HB9 := Lib.hid m3; have HM1 := Lib.hid m1; clear hown hgrow m0 m1 m2 m3))
          all_goals
            obtain ⟨p1, p2, _⟩ := put7 HM1.out (.int .i64 2) (.int .i64 l) (.int .i64 0) (.slice A9 0 k9) (.slice none 0 0) (.slice none 0 0) (.slice none 0 0)
            obtain ⟨u0, u1, u2, u3, u4, u5, u6, _⟩ := seven_cells p1
            have hown := HOWN.out
            have END := Lib.hid (part_end (k := 2) (f := f) (a := a) (b := a) (m := 0) (by unfold RngI; omega) HRNG.out HRF.out (by omega) (by omega) (by rw [HNF.out]; omega) hown p2 (put7_below HB9.out (Nat.le_succ _) _ _ _ _ _ _ _))
            clear p1 p2 hown r0 r1 r2 r3 r4 r5 r6 rf
            go_wp2_with (fail)
            refine bodyPost_ret (res72 _ (w.heap.size + 1) _ rfl u0 u1 u2 u3 u4 u5 u6) rfl ?_
            exact END.out
    obtain ⟨b3, o3, rfl, _, _⟩ := HFL.out.at_ (i := 0) (by omega)
    have hnc : ¬ c3 = a := by omega
    go_enter Tryz.func72, Tryz.ntmps72
    go_upto_region 27 with (first | (go_at_call 78; refine (HK78.out _).mono ?_; rintro e1 w1 ⟨rfl, rfl⟩))
    go_region_held3 (fun w' => w'.cell? ⟨w.heap.size, 1, none⟩ = some (.int .i64 l) ∧ w'.cell? ⟨w.heap.size, 3, none⟩ = some (.slice (some ⟨b3, o3, none⟩) nf c3) ∧ w'.cell? ⟨w.heap.size, 4, none⟩ = some (.slice (some ⟨b4, o4, none⟩) ne c4) ∧ w'.cell? ⟨b4, o4 + (j + 1), none⟩ = some (.int .i64 b)) (first | go_keep | exact ⟨k1, k3, k4, k7⟩) ((refine step_append_own rfl (.tmp 94) (.tmp 103) 24 rfl (w.heap.size + 2) 146 i0 (.float .f64 0) 1 8 Tryz.underlying24 hi0 hz0 hz1 hz2 rfl (by decide) (.slice (some ⟨w.heap.size + 1 + 1, 0, none⟩) 0 0) 0 [] rfl (own3 w _ _) ⟨b3, o3 + a, none⟩ (b - a) (c3 - a) (segC f a (b - a)) (by simp [Act.eval, Act.put, hnc]) (by rw [segC_length, Nat.mul_one]) (segC_cells (HFL.out.below (Nat.le_refl _) (bel3 w _ _ _)) (by omega)) (segC_one _ _ _) (by unfold maxLen; omega) (by omega) (size3 w _ _ _) ?_; intro A9 k9 w9 hown hgrow; obtain ⟨m0, m1, m2, m3⟩ := grown_heap hgrow; obtain ⟨k0, k1, k2, k3, k4, k5, k6, kf⟩ := seven_cells m0; obtain ⟨r0, r1, r2, r3, r4, r5, r6, rf⟩ := seven_cells m1; have k7 := m2 _ _ _ q4; have HOWN := Lib.hid hown; have HB9 := Lib.hid m3; have HM1 := Lib.hid m1; clear hown hgrow m0 m1 m2 m3))
    all_goals
      obtain ⟨p1, p2, _⟩ := put7 HM1.out (.int .i64 2) (.int .i64 l) (.int .i64 0) (.slice A9 (b - a) k9) (.slice none 0 0) (.slice none 0 0) (.slice none 0 0)
      obtain ⟨u0, u1, u2, u3, u4, u5, u6, _⟩ := seven_cells p1
      have hown := HOWN.out
      rw [Nat.zero_add, List.nil_append] at hown
      have END := Lib.hid (part_end (k := 2) (by unfold RngI; omega) HRNG.out HRF.out rfl hab (by rw [HNF.out]; exact hbf) hown p2 (put7_below HB9.out (Nat.le_succ _) _ _ _ _ _ _ _))
      clear p1 p2 hown r0 r1 r2 r3 r4 r5 r6 rf
      go_wp2_with (fail)
      refine bodyPost_ret (res72 _ (w.heap.size + 1) _ rfl u0 u1 u2 u3 u4 u5 u6) rfl ?_
      exact END.out
end Go.Proofs.YtokmamakmaojpaaGreatDoor

/- K2. -/
namespace Go.Proofs.YtokmamakmaojpaaGreatDoor
open Go.RowKit

theorem two_new (w : World) (x y : Obj) : ((w.alloc x).alloc y).heap[w.heap.size + 1]? = some y := by
  have h1 := heap_alloc_new (w.alloc x) y
  rwa [size_alloc] at h1
/-- What Part leaves where it hands on what was there. -/
def PartOld (w0 : World) (p : G) (w : World) (e : Ending) (w' : World) : Prop := ∃ c', e = .returned (.agg #[c' 0, c' 1, c' 2, c' 3, c' 4, c' 5, c' 6]) ∧ GAt w0 c' p ∧ Below w.heap.size w w'
set_option maxRecDepth 100000 in
set_option maxHeartbeats 4000000 in
theorem part_7 (l s : Int) (f : List Nat) (e : List Int) (es : List (List Int)) (kids : List G) (c : Nat → Value) (w0 w : World) (hg : GAt w0 c (.mk 7 l s f e es kids)) (hB0 : Below w0.heap.size w0 w) (i : Nat) (hi : i < kids.length) (hkn : kids.length ≤ 2097152) :
    Calls Tryz.prog 72 #[.agg #[c 0, c 1, c 2, c 3, c 4, c 5, c 6], .int .i64 i] w (PartOld w0 kids[i] w) := by
  obtain ⟨A3, A4, A5, A6, c3, c4, c5, c6, e0, e1, e2, e3, e4, e5, e6, ho⟩ := hg.open_
  rw [e0, e1, e2, e3, e4, e5, e6]
  obtain ⟨kc, hk, hkids⟩ := ho.kids
  have hgk := hkids i hi
  obtain ⟨ne, hne⟩ : ∃ ne, e.length = ne := ⟨_, rfl⟩
  obtain ⟨nes, hnes⟩ : ∃ nes, es.length = nes := ⟨_, rfl⟩
  obtain ⟨nk, hnk⟩ : ∃ nk, kids.length = nk := ⟨_, rfl⟩
  obtain ⟨nf, hnf⟩ : ∃ nf, f.length = nf := ⟨_, rfl⟩
  obtain ⟨kid, hkid⟩ : ∃ kid, kids[i] = kid := ⟨_, rfl⟩
  rw [hkid] at hgk ⊢
  rw [hne, hnes, hnk, hnf]
  rw [hnk] at hi hk hkn
  obtain ⟨b, o, rfl, hb, q0, q1, q2, q3, q4, q5, q6⟩ := (hk.below (Nat.le_refl _) hB0).seven hi
  obtain ⟨k', l', s', A3', n3, d3, A4', n4, d4, A5', n5, d5, A6', n6, d6, f0, f1, f2, f3, f4, f5, f6⟩ := hgk.cells
  rw [f0] at q0
  rw [f1] at q1
  rw [f2] at q2
  rw [f3] at q3
  rw [f4] at q4
  rw [f5] at q5
  rw [f6] at q6
  have E : Hid (∀ W, Below w.heap.size w W → PartOld w0 kid w (.returned (.agg #[.int .i64 k', .int .i64 l', .int .i64 s', .slice A3' n3 d3, .slice A4' n4 d4, .slice A5' n5 d5, .slice A6' n6 d6])) W) :=
    Lib.hid fun W hW => ⟨kc i, by rw [f0, f1, f2, f3, f4, f5, f6], hgk, hW⟩
  obtain ⟨hk0, hk1⟩ := hk.le
  have z0 := fun x y => two_old w x y q0
  have z1 := fun x y => two_old w x y q1
  have z2 := fun x y => two_old w x y q2
  have z3 := fun x y => two_old w x y q3
  have z4 := fun x y => two_old w x y q4
  have z5 := fun x y => two_old w x y q5
  have z6 := fun x y => two_old w x y q6
  clear e0 e1 e2 e3 e4 e5 e6 f0 f1 f2 f3 f4 f5 f6 q0 q1 q2 q3 q4 q5 q6 hg hgk ho hk hkids hkid hne hnes hnk hnf
  go_enter Tryz.func72, Tryz.ntmps72
  go_wp2_with (fail)
  obtain ⟨u0, u1, u2, u3, u4, u5, u6, _⟩ := seven_cells (two_new w (.cells #[Value.int .i64 7, .int .i64 l, .int .i64 s, .slice A3 nf c3, .slice A4 ne c4, .slice A5 nes c5, .slice (some ⟨b, o, none⟩) nk c6] 28) (.cells #[.int .i64 k', .int .i64 l', .int .i64 s', .slice A3' n3 d3, .slice A4' n4 d4, .slice A5' n5 d5, .slice A6' n6 d6] 28))
  refine bodyPost_ret (res72 _ (w.heap.size + 1) _ rfl u0 u1 u2 u3 u4 u5 u6) rfl ?_
  exact E.out _ (((Below.refl _ w).alloc (Nat.le_refl _) _).alloc (by simp) _)
end Go.Proofs.YtokmamakmaojpaaGreatDoor

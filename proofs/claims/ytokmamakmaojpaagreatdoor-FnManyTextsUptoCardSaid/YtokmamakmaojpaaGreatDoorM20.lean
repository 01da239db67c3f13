/-
  The encoder: writeFlatCoords3.
-/
import Derived.Test.YtokmamakmaojpaaGreatDoorM19
set_option linter.unusedVariables false
set_option linter.unusedSimpArgs false
namespace Go.Proofs.YtokmamakmaojpaaGreatDoor
open Go.RowKit

set_option maxRecDepth 100000 in
set_option maxHeartbeats 4000000 in
theorem writeFlat3_63 (w0 : World) (eb b : Nat) (d : Int) (hE : Enc w0 eb d) (flat : List Nat) (hf : ∀ x ∈ flat, x < 18446744073709551616) (v : Value) (hv : RowAt w0 v flat.length 1 (fltC flat)) (st : Nat) (hs0 : 2 ≤ st) (hs1 : st ≤ 9)
    (hL : flat.length ≤ 2097152) (es : List (List Int)) (u : Value) (ev : Nat → Value) (hu : RowAt w0 u es.length 1 (fun i _ => ev i)) (hrow : ∀ i, i < es.length → RowAt w0 (ev i) (es.getD i []).length 1 (intC (es.getD i [])))
    (hk : ∀ i, i < es.length → startOf es i ≤ flat.length ∧ EOk st flat.length (startOf es i) (es.getD i []))
    (s : List UInt8) (w : World) (hB : Bld w0 b s w) (hl : s.length + (polysT st d flat es).length ≤ 140737488355328) :
    Calls Tryz.prog 63 #[.pointer (some ⟨eb, 0, none⟩), .pointer (some ⟨b, 0, none⟩), v, u, .int .i64 st] w (EWr w0 b (s ++ polysT st d flat es)) := by
  obtain ⟨A, cap, rfl, hl0, hl1, _⟩ := id hv
  obtain ⟨Au, capu, rfl, hu0, hu1, _⟩ := id hu
  unfold maxLen at hl1 hu1
  obtain ⟨q, hq⟩ : ∃ q, es.length = q := ⟨_, rfl⟩
  unfold polysT at hl ⊢
  rw [hq] at hu hu0 hl hrow hk ⊢
  obtain ⟨g, hg⟩ : ∃ g : Nat → List UInt8, polyT st d flat es = g := ⟨_, rfl⟩
  rw [hg] at hl ⊢
  unfold inBr at hl ⊢
  simp only [List.length_append, List.length_singleton] at hl
  have H1 := Lib.hid (writeRune66 w0 b s 40 (by decide) w hB (by omega))
  have HMO := Lib.hid (fun i (h : i ≤ q) => joinT_mono g q i h)
  have HL := Lib.hid hl
  have HG := Lib.hid (fun k => (congrFun hg k).symm)
  have HK := Lib.hid hk
  have HV := Lib.hid hv
  have HU := Lib.hid hu
  have HF := Lib.hid hf
  have HQ := Lib.hid hq
  have HROW := Lib.hid hrow
  obtain ⟨n, hn⟩ : ∃ n, flat.length = n := ⟨_, rfl⟩
  rw [hn] at hl0 hL ⊢
  have HN := Lib.hid hn
  clear hB hl hv hf hu hk hq hg hrow hn
  go_enter Tryz.func63, Tryz.ntmps63
  go_wp2_with (fail)
  refine H1.out.mono ?_
  rintro e w1 ⟨m1, rfl, hB1⟩
  have HB1 := Lib.hid hB1
  clear hB1
  go_wp2_with (fail)
  go_loopg [13, 32] q (fun gk v13 vc wr => ∃ i : Nat, i + gk = q ∧ vc = .int .i64 i ∧ Bld w0 b (s ++ [40] ++ joinT g i) wr ∧ ∃ p : Nat, v13 = .int .i64 p ∧ Hid (p = startOf es i))
  case atStart => exact ⟨0, by omega, by go_num, by simpa [joinT] using HB1.out, 0, by go_num, Lib.hid rfl⟩
  case round =>
    obtain ⟨i, hi, rfl, hB, p, rfl, hp⟩ := hrel
    by_cases hlt : i < q
    · have HI := Lib.hid hi
      obtain ⟨bb, o, rfl, _, h0⟩ := (HU.out.below (Nat.le_refl _) hB.below).one hlt
      obtain ⟨hk0, hk1⟩ := HK.out i hlt
      have hrow := HROW.out i hlt
      have hgi := HG.out i
      unfold polyT at hgi
      have hsu : startOf es (i + 1) = if (es.getD i []).length = 0 then startOf es i else ((es.getD i []).getD ((es.getD i []).length - 1) 0).toNat := rfl
      rw [← hp.out] at hk0 hk1 hgi hsu
      obtain ⟨row, hrw⟩ : ∃ row, es.getD i [] = row := ⟨_, rfl⟩
      rw [hrw] at hk1 hrow hgi hsu
      obtain ⟨Ae, ce, hee, hle1, hle2, _⟩ := id hrow
      unfold maxLen at hle2
      rw [hee] at h0 hrow
      obtain ⟨z, hz⟩ : ∃ z, row.length = z := ⟨_, rfl⟩
      rw [hz] at h0 hgi hsu hle1
      have hmo := HMO.out (i + 1) (by omega)
      have hjs : joinT g (i + 1) = joinT g i ++ (if i = 0 then [] else commaT) ++ g i := rfl
      rw [hjs] at hmo
      have HJS := Lib.hid hjs
      have hL2 := HL.out
      have HB0 := Lib.hid hB
      clear hi hjs hB hee hrw
      by_cases hz0 : z = 0
      · subst hz0
        rw [if_pos rfl] at hgi hsu
        have HSU : Hid (p = startOf es (i + 1)) := Lib.hid hsu.symm
        have hel : emptyT.length = 5 := rfl
        rw [hgi] at hmo HJS
        simp only [List.length_append, hel] at hmo
        clear hgi hsu hel hz hrow
        by_cases hi0 : i = 0
        · subst hi0
          rw [if_pos rfl] at HJS hmo
          rw [Nat.add_zero] at h0
          rw [show ((0 : Nat) : Int) = 0 from rfl]
          have HP := Lib.hid (fun w' (h : Bld w0 b (s ++ [40] ++ joinT g 0) w') => writeEmpty52 w0 b _ (.pointer (some ⟨eb, 0, none⟩)) w' h (by simp only [List.length_append, List.length_singleton]; simp at hmo; omega))
          have HSQ : Hid (s ++ [40] ++ joinT g 0 ++ emptyT = s ++ [40] ++ joinT g (0 + 1)) := Lib.hid (by rw [HJS.out]; simp)
          clear hmo
          go_wp2_with (fail)
          refine (HP.out _ HB0.out).mono ?_
          rintro e1 w2 ⟨rfl, hB2⟩
          have HB2 := Lib.hid hB2
          clear hB2
          go_wp2_with (fail)
          go_roundg (q - (0 + 1))
          case measure => have := HI.out; omega
          case rel => exact ⟨0 + 1, by omega, by go_num, by rw [← HSQ.out]; exact HB2.out, p, rfl, HSU⟩
        · have hib : ((i : Int) == 0) = false := beq_false_of_ne (by omega)
          have hip : 0 < i := by omega
          rw [if_neg hi0] at HJS hmo
          have hcl : commaT.length = 2 := rfl
          rw [hcl] at hmo
          have HWS := Lib.hid (writeString50 w0 b _ [44, 32] _ HB0.out (by simp only [List.length_append, List.length_singleton, List.length_cons, List.length_nil]; omega))
          have HP := Lib.hid (fun w' (h : Bld w0 b (s ++ [40] ++ joinT g i ++ [44, 32]) w') => writeEmpty52 w0 b _ (.pointer (some ⟨eb, 0, none⟩)) w' h (by simp only [List.length_append, List.length_singleton, List.length_cons, List.length_nil]; omega))
          have HSQ : Hid (s ++ [40] ++ joinT g i ++ [44, 32] ++ emptyT = s ++ [40] ++ joinT g (i + 1)) := Lib.hid (by rw [HJS.out]; simp [commaT])
          clear hmo hi0 hcl
          go_wp2_with (fail)
          refine HWS.out.mono ?_
          rintro e1 w2 ⟨m2, rfl, hB2⟩
          have HB2 := Lib.hid hB2
          clear hB2
          go_wp2_with (fail)
          refine (HP.out _ HB2.out).mono ?_
          rintro e2 w3 ⟨rfl, hB3⟩
          have HB3 := Lib.hid hB3
          clear hB3
          go_wp2_with (fail)
          go_roundg (q - (i + 1))
          case measure => have := HI.out; omega
          case rel => exact ⟨i + 1, by omega, by go_num, by rw [← HSQ.out]; exact HB3.out, p, rfl, HSU⟩
      · rw [if_neg hz0] at hgi hsu
        obtain ⟨hx0, _, hx2, _⟩ := hk1 (z - 1) (by omega)
        obtain ⟨eL, heL⟩ : ∃ eL : Nat, row.getD (z - 1) 0 = (eL : Int) := ⟨(row.getD (z - 1) 0).toNat, by omega⟩
        obtain ⟨b2, o2, rfl, hb2, hc2⟩ := (show RowAt w0 (.slice Ae z ce) z 1 (intC row) by rw [← hz]; exact hrow).one (i := z - 1) (by omega)
        unfold intC at hc2
        rw [heL] at hc2 hsu
        simp only [Int.toNat_natCast] at hsu
        have HC2 : Hid (∀ w', Below w0.heap.size w0 w' → w'.cell? ⟨b2, o2 + (z - 1), none⟩ = some (.int .i64 (eL : Int))) := Lib.hid fun w' h => (h.cell (p := ⟨b2, o2 + (z - 1), none⟩) hb2).trans hc2
        have hrw := hrow
        rw [hz] at hrw
        have hwc := fun s' w' (h : Bld w0 b s' w') hl => writeFlat2_57 w0 eb b d hE flat HF.out (.slice A flat.length cap) (by rw [HN.out]; have := HV.out; rw [HN.out] at this; exact this) st hs0 hs1 (by rw [HN.out]; exact hL) p hk0 row (.slice (some ⟨b2, o2, none⟩) z ce) (by rw [hz]; exact hrw) hk1 s' w' h hl
        rw [HN.out] at hwc
        obtain ⟨T, hT⟩ : ∃ T, ringsT st d flat p row = T := ⟨_, rfl⟩
        rw [hT] at hgi
        simp only [hT] at hwc
        rw [hgi] at hmo HJS
        simp only [List.length_append] at hmo
        have HSU : Hid (eL = startOf es (i + 1)) := Lib.hid hsu.symm
        have hzz : ((z : Int) == 0) = false := beq_false_of_ne (by omega)
        have hz1 : 1 ≤ z := by omega
        clear hgi hsu hrow hrw hz hT heL hc2 hk0 hk1 hx0 hx2 hz0
        by_cases hi0 : i = 0
        · subst hi0
          rw [if_pos rfl] at HJS hmo
          rw [Nat.add_zero] at h0
          rw [show ((0 : Nat) : Int) = 0 from rfl]
          have HP := Lib.hid (fun w' (h : Bld w0 b (s ++ [40] ++ joinT g 0) w') => hwc _ w' h (by simp only [List.length_append, List.length_singleton]; simp at hmo; omega))
          have HSQ : Hid (s ++ [40] ++ joinT g 0 ++ T = s ++ [40] ++ joinT g (0 + 1)) := Lib.hid (by rw [HJS.out]; simp)
          clear hmo hwc
          go_wp2_with (fail)
          refine (HP.out _ HB0.out).mono ?_
          rintro e1 w2 ⟨rfl, hB2⟩
          have hcl := HC2.out _ hB2.below
          have HB2 := Lib.hid hB2
          clear hB2
          go_wp2_with (fail)
          go_roundg (q - (0 + 1))
          case measure => have := HI.out; omega
          case rel => exact ⟨0 + 1, by omega, by go_num, by rw [← HSQ.out]; exact HB2.out, eL, rfl, HSU⟩
        · have hib : ((i : Int) == 0) = false := beq_false_of_ne (by omega)
          have hip : 0 < i := by omega
          rw [if_neg hi0] at HJS hmo
          have hcl : commaT.length = 2 := rfl
          rw [hcl] at hmo
          have HWS := Lib.hid (writeString50 w0 b _ [44, 32] _ HB0.out (by simp only [List.length_append, List.length_singleton, List.length_cons, List.length_nil]; omega))
          have HP := Lib.hid (fun w' (h : Bld w0 b (s ++ [40] ++ joinT g i ++ [44, 32]) w') => hwc _ w' h (by simp only [List.length_append, List.length_singleton, List.length_cons, List.length_nil]; omega))
          have HSQ : Hid (s ++ [40] ++ joinT g i ++ [44, 32] ++ T = s ++ [40] ++ joinT g (i + 1)) := Lib.hid (by rw [HJS.out]; simp [commaT])
          clear hmo hi0 hcl hwc
          go_wp2_with (fail)
          refine HWS.out.mono ?_
          rintro e1 w2 ⟨m2, rfl, hB2⟩
          have HB2 := Lib.hid hB2
          clear hB2
          go_wp2_with (fail)
          refine (HP.out _ HB2.out).mono ?_
          rintro e2 w3 ⟨rfl, hB3⟩
          have hcl := HC2.out _ hB3.below
          have HB3 := Lib.hid hB3
          clear hB3
          go_wp2_with (fail)
          go_roundg (q - (i + 1))
          case measure => have := HI.out; omega
          case rel => exact ⟨i + 1, by omega, by go_num, by rw [← HSQ.out]; exact HB3.out, eL, rfl, HSU⟩
    · have ei : i = q := by omega
      subst ei
      have H3 := Lib.hid (writeRune66 w0 b _ 41 (by decide) wr hB (by have := HL.out; simp only [List.length_append, List.length_singleton]; omega))
      clear hB hi hp
      go_wp2_with (fail)
      refine H3.out.mono ?_
      rintro e w3 ⟨m3, rfl, hB3⟩
      have HB3 := Lib.hid hB3
      clear hB3
      go_wp2_with (fail)
      go_ret
      exact ⟨rfl, by simpa using HB3.out⟩
end Go.Proofs.YtokmamakmaojpaaGreatDoor

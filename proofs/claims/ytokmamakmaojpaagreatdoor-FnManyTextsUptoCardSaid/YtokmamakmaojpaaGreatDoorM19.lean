/-
  E2. The encoder: writeFlatCoords0, writeFlatCoords1.
  E3. The encoder: writeFlatCoords1Ends, writeFlatCoords2.
-/
import Derived.Test.YtokmamakmaojpaaGreatDoorM16
set_option linter.unusedVariables false
set_option linter.unusedSimpArgs false
/- E2. -/
namespace Go.Proofs.YtokmamakmaojpaaGreatDoor
open Go.RowKit

/-- A piece of a slice of numbers. -/
def subV (A : Option Addr) (cap lo hi : Nat) : Value := .slice (if cap = lo then A else A.map (·.add (lo * 1))) (hi - lo) (cap - lo)
theorem run_sl24 (A : Option Addr) (n cap : Nat) (a b : Int) (lo hi : Nat) (ha : a = lo) (hb : b = hi) (h0 : lo ≤ hi) (h1 : hi ≤ n) (h2 : n ≤ cap) (w : World) :
    (Instr.slice 24 (.slice A n cap) (some (.int .i64 a)) (some (.int .i64 b)) none).run Tryz.prog w = .ok (subV A cap lo hi) w := by
  subst ha hb
  have h3 : hi ≤ cap := by omega
  simp [Instr.slice, Instr.sliceBounds, go_sem, subV, h0, h3]
theorem run_sl24to (A : Option Addr) (n cap : Nat) (b : Int) (hi : Nat) (hb : b = hi) (h1 : hi ≤ n) (h2 : n ≤ cap) (w : World) :
    (Instr.slice 24 (.slice A n cap) none (some (.int .i64 b)) none).run Tryz.prog w = .ok (subV A cap 0 hi) w := by
  subst hb
  have h3 : hi ≤ cap := by omega
  simp [Instr.slice, Instr.sliceBounds, go_sem, subV, h3]
theorem RowAt.sub {w : World} {A : Option Addr} {n cap lo hi : Nat} {f : Nat → Nat → Value} (h : RowAt w (.slice A n cap) n 1 f) (h0 : lo ≤ hi) (h1 : hi ≤ n) : RowAt w (subV A cap lo hi) (hi - lo) 1 (fun i j => f (lo + i) j) := by
  obtain ⟨hc, _⟩ := h.le
  have hm : cap ≤ maxLen := by
    obtain ⟨A', cap', e, _, h3, _⟩ := h
    cases e
    exact h3
  refine ⟨_, _, rfl, by omega, by omega, fun hn => ?_⟩
  obtain ⟨b, o, rfl, hb, hc2⟩ := h.at_ (i := lo) (by omega)
  rw [if_neg (by omega)]
  refine ⟨b, o + lo, ?_, hb, fun i j hi hj => ?_⟩
  · simp only [Option.map_some, Addr.add, Nat.mul_one]
    split
    · rename_i h5
      rw [h5, Nat.add_zero]
    · rfl
  · have := hc2 (lo + i) j (by omega) hj
    rw [← this]
    congr 2
    omega
theorem fltC_seg {w : World} {A : Option Addr} {n cap lo hi : Nat} {flat : List Nat} (hn : flat.length = n) (h : RowAt w (.slice A n cap) n 1 (fltC flat)) (h0 : lo ≤ hi) (h1 : hi ≤ n) :
    RowAt w (subV A cap lo hi) (seg flat lo hi).length 1 (fltC (seg flat lo hi)) := by
  rw [seg_length h0 (by rw [hn]; exact h1)]
  exact (h.sub h0 h1).congr fun i j hi _ => by
    unfold fltC
    rw [seg_getD (by omega)]
theorem seg_mem {flat : List Nat} {lo hi : Nat} {P : Nat → Prop} (h : ∀ x ∈ flat, P x) : ∀ x ∈ seg flat lo hi, P x := fun x hx => h x (List.mem_of_mem_drop (List.mem_of_mem_take hx))

set_option maxRecDepth 100000 in
set_option maxHeartbeats 2000000 in
theorem writeFlat0_53 (w0 : World) (eb b : Nat) (d : Int) (hE : Enc w0 eb d) (flat : List Nat) (hf : ∀ x ∈ flat, x < 18446744073709551616) (v : Value) (hv : RowAt w0 v flat.length 1 (fltC flat)) (st : Nat) (hst : flat.length = st) (s : List UInt8) (w : World) (hB : Bld w0 b s w)
    (hl : s.length + (inBr (numsU st d flat st)).length ≤ 140737488355328) :
    Calls Tryz.prog 53 #[.pointer (some ⟨eb, 0, none⟩), .pointer (some ⟨b, 0, none⟩), v, .int .i64 st] w (EWr w0 b (s ++ inBr (numsU st d flat st))) := by
  rw [numsU_one st d flat st (Nat.le_refl _)] at hl ⊢
  obtain ⟨A, cap, rfl, hl0, hl1, _⟩ := id hv
  unfold maxLen at hl1
  rw [hst] at hv hl0 ⊢
  have hsg : ∀ i, (seg flat 0 st).getD i 0 = flat.getD i 0 := fun i => by
    unfold seg
    rw [List.drop_zero, Nat.sub_zero, ← hst, List.take_length]
  have hT : numsU 0 d (seg flat 0 st) (seg flat 0 st).length = numsU 0 d flat st := by
    rw [seg_length (Nat.zero_le _) (by omega), Nat.sub_zero]
    exact numsU_congr st fun i _ => hsg i
  unfold inBr at hl ⊢
  simp only [List.length_append, List.length_singleton] at hl
  have H1 := Lib.hid (writeRune66 w0 b s 40 (by decide) w hB (by omega))
  have H2 := Lib.hid (fun w' (h : Bld w0 b (s ++ [40]) w') => writeCoord75 w0 eb b d hE (seg flat 0 st) (seg_mem hf) _ (fltC_seg hst hv (Nat.zero_le st) (Nat.le_refl _)) _ w' h (by rw [hT]; simp only [List.length_append, List.length_singleton]; omega))
  rw [hT] at H2
  have H3 := Lib.hid (fun w' (h : Bld w0 b (s ++ [40] ++ numsU 0 d flat st) w') => writeRune66 w0 b _ 41 (by decide) w' h (by simp only [List.length_append, List.length_singleton]; omega))
  have hsl := fun w => run_sl24to A st cap (st : Int) st rfl (Nat.le_refl _) hl0 w
  clear hB hl hT hsg hv hst hf hl1
  go_enter Tryz.func53, Tryz.ntmps53
  go_wp2_with (fail)
  refine H1.out.mono ?_
  rintro e w1 ⟨m1, rfl, hB1⟩
  have HB1 := Lib.hid hB1
  clear hB1
  go_wp2_with (fail)
  refine (H2.out _ HB1.out).mono ?_
  rintro e w2 ⟨rfl, hB2⟩
  have HB2 := Lib.hid hB2
  clear hB2
  go_wp2_with (fail)
  refine (H3.out _ HB2.out).mono ?_
  rintro e w3 ⟨m3, rfl, hB3⟩
  have HB3 := Lib.hid hB3
  clear hB3
  go_wp2_with (fail)
  go_ret
  exact ⟨rfl, by simpa using HB3.out⟩

set_option maxRecDepth 100000 in
set_option maxHeartbeats 4000000 in
theorem writeFlat1_56 (w0 : World) (eb b : Nat) (d : Int) (hE : Enc w0 eb d) (flat : List Nat) (hf : ∀ x ∈ flat, x < 18446744073709551616) (v : Value) (hv : RowAt w0 v flat.length 1 (fltC flat)) (st : Nat) (hs0 : 2 ≤ st) (hs1 : st ≤ 9) (hst : flat.length % st = 0)
    (hL : flat.length ≤ 2097152) (s : List UInt8) (w : World) (hB : Bld w0 b s w) (hl : s.length + (inBr (numsU st d flat flat.length)).length ≤ 140737488355328) :
    Calls Tryz.prog 56 #[.pointer (some ⟨eb, 0, none⟩), .pointer (some ⟨b, 0, none⟩), v, .int .i64 st] w (EWr w0 b (s ++ inBr (numsU st d flat flat.length))) := by
  obtain ⟨A, cap, rfl, hl0, hl1, _⟩ := id hv
  unfold maxLen at hl1
  obtain ⟨n, hn⟩ : ∃ n, flat.length = n := ⟨_, rfl⟩
  rw [hn] at hv hl0 hst hl hL ⊢
  unfold inBr at hl ⊢
  simp only [List.length_append, List.length_singleton] at hl
  have H1 := Lib.hid (writeRune66 w0 b s 40 (by decide) w hB (by omega))
  have HMO := Lib.hid (fun i (h : i ≤ n) => numsU_mono st d flat n i h)
  have HL := Lib.hid hl
  have HST := Lib.hid hst
  have HV := Lib.hid hv
  have HF := Lib.hid hf
  have HN := Lib.hid hn
  clear hB hl hv hst hf hn
  go_enter Tryz.func56, Tryz.ntmps56
  go_wp2_with (fail)
  refine H1.out.mono ?_
  rintro e w1 ⟨m1, rfl, hB1⟩
  have HB1 := Lib.hid hB1
  clear hB1
  go_wp2_with (fail)
  go_loopg [11] n (fun gk v11 wr => ∃ i : Nat, i + gk = n ∧ v11 = .int .i64 i ∧ Bld w0 b (s ++ [40] ++ numsU st d flat i) wr ∧ Hid (i % st = 0))
  case atStart => exact ⟨0, by omega, by go_num, by simpa [numsU] using HB1.out, Lib.hid (Nat.zero_mod st)⟩
  case round =>
    obtain ⟨i, hi, rfl, hB, him⟩ := hrel
    by_cases hlt : i < n
    · have HI := Lib.hid hi
      have hle : i + st ≤ n := by
        have h1 := HST.out
        have h2 := him.out
        have h3 := Nat.div_add_mod n st
        have h4 := Nat.div_add_mod i st
        rw [h1] at h3
        rw [h2] at h4
        have h5 : i / st < n / st := by
          rcases Nat.lt_or_ge (i / st) (n / st) with h6 | h6
          · exact h6
          · have := Nat.mul_le_mul_left st h6
            omega
        have := Nat.mul_le_mul_left st h5
        rw [Nat.mul_succ] at this
        omega
      have hmo := HMO.out (i + st) hle
      have hL2 := HL.out
      have hch := numsU_chunk st d flat i him.out st (by omega) (Nat.le_refl _)
      have hsl := fun w => run_sl24 A n cap (i : Int) ((i : Int) + st) i (i + st) rfl (by omega) (by omega) hle hl0 w
      have hrw := fltC_seg (lo := i) (hi := i + st) HN.out HV.out (by omega) hle
      have hsn : (seg flat i (i + st)).length = st := by rw [seg_length (by omega) (by rw [HN.out]; exact hle)]; omega
      have hwc := fun s' w' (h : Bld w0 b s' w') hl => writeCoord75 w0 eb b d hE (seg flat i (i + st)) (seg_mem HF.out) _ hrw s' w' h hl
      rw [hsn] at hwc
      obtain ⟨T, hT⟩ : ∃ T, numsU 0 d (seg flat i (i + st)) st = T := ⟨_, rfl⟩
      simp only [hT] at hwc hch
      rw [hch] at hmo
      have HCH := Lib.hid hch
      have HIM : Hid ((i + st) % st = 0) := Lib.hid (by rw [Nat.add_mod_right]; exact him.out)
      have HB0 := Lib.hid hB
      simp only [List.length_append] at hmo
      clear hi hrw hsn hT hch hB him
      by_cases hi0 : i = 0
      · subst hi0
        rw [if_pos rfl] at HCH hmo
        simp only [Nat.zero_add] at hwc hsl HCH HIM
        have HWC := Lib.hid (fun w' (h : Bld w0 b (s ++ [40] ++ numsU st d flat 0) w') => hwc _ w' h (by simp only [List.length_append, List.length_singleton]; simp at hmo; omega))
        have HSQ : Hid (s ++ [40] ++ numsU st d flat 0 ++ T = s ++ [40] ++ numsU st d flat st) := Lib.hid (by rw [HCH.out]; simp)
        clear hwc hmo
        rw [show ((0 : Nat) : Int) = 0 from rfl] at hsl ⊢
        simp only [Int.zero_add] at hsl
        go_wp2_with (fail)
        refine (HWC.out _ HB0.out).mono ?_
        rintro e w2 ⟨rfl, hB2⟩
        have HB2 := Lib.hid hB2
        clear hB2
        go_wp2_with (fail)
        go_roundg (n - st)
        case measure => have := HI.out; omega
        case rel => exact ⟨st, by omega, by go_num, by rw [← HSQ.out]; exact HB2.out, HIM⟩
      · have hib : ((i : Int) == 0) = false := beq_false_of_ne (by omega)
        have hip : 0 < i := by omega
        rw [if_neg hi0] at HCH hmo
        have hcl : commaT.length = 2 := rfl
        rw [hcl] at hmo
        have HWS := Lib.hid (writeString50 w0 b _ [44, 32] _ HB0.out (by simp only [List.length_append, List.length_singleton, List.length_cons, List.length_nil]; omega))
        have HWC := Lib.hid (fun w' (h : Bld w0 b (s ++ [40] ++ numsU st d flat i ++ [44, 32]) w') => hwc _ w' h (by simp only [List.length_append, List.length_singleton, List.length_cons, List.length_nil]; omega))
        have HSQ : Hid (s ++ [40] ++ numsU st d flat i ++ [44, 32] ++ T = s ++ [40] ++ numsU st d flat (i + st)) := Lib.hid (by rw [HCH.out]; simp [commaT])
        clear hwc hmo hi0 hcl
        go_wp2_with (fail)
        refine HWS.out.mono ?_
        rintro e w2 ⟨m2, rfl, hB2⟩
        have HB2 := Lib.hid hB2
        clear hB2
        go_wp2_with (fail)
        refine (HWC.out _ HB2.out).mono ?_
        rintro e w3 ⟨rfl, hB3⟩
        have HB3 := Lib.hid hB3
        clear hB3
        go_wp2_with (fail)
        go_roundg (n - (i + st))
        case measure => have := HI.out; omega
        case rel => exact ⟨i + st, by omega, by go_num, by rw [← HSQ.out]; exact HB3.out, HIM⟩
    · have ei : i = n := by omega
      subst ei
      have H3 := Lib.hid (writeRune66 w0 b _ 41 (by decide) wr hB (by have := HL.out; simp only [List.length_append, List.length_singleton]; omega))
      clear hB hi him
      go_wp2_with (fail)
      refine H3.out.mono ?_
      rintro e w3 ⟨m3, rfl, hB3⟩
      have HB3 := Lib.hid hB3
      clear hB3
      go_wp2_with (fail)
      go_ret
      exact ⟨rfl, by simpa using HB3.out⟩
end Go.Proofs.YtokmamakmaojpaaGreatDoor

/- E3. -/
namespace Go.Proofs.YtokmamakmaojpaaGreatDoor
open Go.RowKit

theorem joinT_mono (f : Nat → List UInt8) : ∀ n i, i ≤ n → (joinT f i).length ≤ (joinT f n).length
  | 0, i, h => by rw [Nat.le_zero.1 h]; exact Nat.le_refl _
  | n + 1, i, h => by
    rcases Nat.lt_or_ge n i with h1 | h1
    · rw [show i = n + 1 by omega]
      exact Nat.le_refl _
    · have := joinT_mono f n i h1
      show _ ≤ (joinT f n ++ _ ++ f n).length
      simp only [List.length_append]
      omega
/-- Ends that rise by whole places, within a row of numbers. -/
def EOk (st L start : Nat) (ends : List Int) : Prop := ∀ i, i < ends.length → 0 ≤ ends.getD i 0 ∧ prevE start ends i ≤ (ends.getD i 0).toNat ∧ (ends.getD i 0).toNat ≤ L ∧ ((ends.getD i 0).toNat - prevE start ends i) % st = 0
theorem prevE_succ (start : Nat) (ends : List Int) (i : Nat) : prevE start ends (i + 1) = (ends.getD i 0).toNat := by
  unfold prevE
  rw [if_neg (by omega), Nat.add_sub_cancel]

set_option maxRecDepth 100000 in
set_option maxHeartbeats 4000000 in
theorem writeFlat2_57 (w0 : World) (eb b : Nat) (d : Int) (hE : Enc w0 eb d) (flat : List Nat) (hf : ∀ x ∈ flat, x < 18446744073709551616) (v : Value) (hv : RowAt w0 v flat.length 1 (fltC flat)) (st : Nat) (hs0 : 2 ≤ st) (hs1 : st ≤ 9)
    (hL : flat.length ≤ 2097152) (start : Nat) (hsf : start ≤ flat.length) (ends : List Int) (u : Value) (hu : RowAt w0 u ends.length 1 (intC ends)) (hk : EOk st flat.length start ends)
    (s : List UInt8) (w : World) (hB : Bld w0 b s w) (hl : s.length + (ringsT st d flat start ends).length ≤ 140737488355328) :
    Calls Tryz.prog 57 #[.pointer (some ⟨eb, 0, none⟩), .pointer (some ⟨b, 0, none⟩), v, .int .i64 start, u, .int .i64 st] w (EWr w0 b (s ++ ringsT st d flat start ends)) := by
  obtain ⟨A, cap, rfl, hl0, hl1, _⟩ := id hv
  obtain ⟨Au, capu, rfl, hu0, hu1, _⟩ := id hu
  unfold maxLen at hl1 hu1
  obtain ⟨n, hn⟩ : ∃ n, flat.length = n := ⟨_, rfl⟩
  obtain ⟨q, hq⟩ : ∃ q, ends.length = q := ⟨_, rfl⟩
  unfold ringsT at hl ⊢
  rw [hn] at hv hl0 hL hk hsf
  rw [hq] at hu hu0 hl ⊢
  rw [hn]
  obtain ⟨g, hg⟩ : ∃ g : Nat → List UInt8, (fun k => placesT st d (segAt flat start ends k)) = g := ⟨_, rfl⟩
  rw [hg] at hl ⊢
  unfold inBr at hl ⊢
  simp only [List.length_append, List.length_singleton] at hl
  have H1 := Lib.hid (writeRune66 w0 b s 40 (by decide) w hB (by omega))
  have HMO := Lib.hid (fun i (h : i ≤ q) => joinT_mono g q i h)
  have HL := Lib.hid hl
  have HG := Lib.hid (fun k => (congrFun hg k).symm)
  have HK := Lib.hid hk
  have HV := Lib.hid hv
  have HU := Lib.hid hu
  have HF := Lib.hid hf
  have HN := Lib.hid hn
  have HQ := Lib.hid hq
  have HPL : Hid (∀ i, i ≤ q → prevE start ends i ≤ n) := Lib.hid fun i hi => by
    cases i with
    | zero => exact hsf
    | succ i =>
      rw [prevE_succ]
      exact (hk i (by omega)).2.2.1
  clear hB hl hv hf hn hu hk hq hg
  go_enter Tryz.func57, Tryz.ntmps57
  go_wp2_with (fail)
  refine H1.out.mono ?_
  rintro e w1 ⟨m1, rfl, hB1⟩
  have HB1 := Lib.hid hB1
  clear hB1
  go_wp2_with (fail)
  go_loopg [3, 33] q (fun gk v3 vc wr => ∃ i : Nat, i + gk = q ∧ vc = .int .i64 i ∧ Bld w0 b (s ++ [40] ++ joinT g i) wr ∧ ∃ p : Nat, v3 = .int .i64 p ∧ Hid (p = prevE start ends i))
  case atStart => exact ⟨0, by omega, by go_num, by simpa [joinT] using HB1.out, start, rfl, Lib.hid rfl⟩
  case round =>
    obtain ⟨i, hi, rfl, hB, p, rfl, hp⟩ := hrel
    by_cases hlt : i < q
    · have HI := Lib.hid hi
      obtain ⟨bb, o, rfl, _, h0⟩ := (HU.out.below (Nat.le_refl _) hB.below).one hlt
      obtain ⟨he0, he1, he2, he3⟩ := HK.out i (by rw [HQ.out]; exact hlt)
      have hgi := HG.out i
      have hsu := prevE_succ start ends i
      unfold segAt at hgi
      unfold intC at h0
      obtain ⟨e, hee⟩ : ∃ e : Nat, ends.getD i 0 = (e : Int) := ⟨(ends.getD i 0).toNat, by omega⟩
      rw [hee] at h0 he1 he2 he3 hgi hsu
      rw [← hp.out] at hgi he1 he3
      simp only [Int.toNat_natCast] at he1 he2 he3 hgi hsu
      have hmo := HMO.out (i + 1) (by omega)
      have hjs : joinT g (i + 1) = joinT g i ++ (if i = 0 then [] else commaT) ++ g i := rfl
      rw [hjs] at hmo
      have HJS := Lib.hid hjs
      have hL2 := HL.out
      have HSU := Lib.hid hsu.symm
      have HB0 := Lib.hid hB
      clear hi hee hjs hsu he0 hB
      by_cases hpe : e ≤ p
      · have hep : e = p := by omega
        have hsz : (seg flat p e).length = 0 := by rw [seg_length (by omega) (by rw [HN.out]; omega)]; omega
        have hgE : g i = emptyT := by
          rw [hgi]
          unfold placesT
          rw [if_pos hsz]
        rw [hgE] at hmo HJS
        have hel : emptyT.length = 5 := rfl
        simp only [List.length_append, hel] at hmo
        clear hgi hgE hsz hep he3 hel
        by_cases hi0 : i = 0
        · subst hi0
          rw [if_pos rfl] at HJS hmo
          rw [Nat.add_zero] at h0
          rw [show ((0 : Nat) : Int) = 0 from rfl]
          have HP := Lib.hid (fun w' (h : Bld w0 b (s ++ [40] ++ joinT g 0) w') => writeEmpty52 w0 b _ (.pointer (some ⟨eb, 0, none⟩)) w' h (by simp only [List.length_append, List.length_singleton]; simp at hmo; omega))
          have HSQ : Hid (s ++ [40] ++ joinT g 0 ++ emptyT = s ++ [40] ++ joinT g (0 + 1)) := Lib.hid (by rw [HJS.out]; simp)
          clear hmo
          go_wp2_with (fail)
          refine (HP.out _ HB0.out).mono ?_
          rintro e1 w2 ⟨rfl, hB2⟩
          have HB2 := Lib.hid hB2
          clear hB2
          go_wp2_with (fail)
          go_roundg (q - (0 + 1))
          case measure => have := HI.out; omega
          case rel => exact ⟨0 + 1, by omega, by go_num, by rw [← HSQ.out]; exact HB2.out, e, rfl, HSU⟩
        · have hib : ((i : Int) == 0) = false := beq_false_of_ne (by omega)
          have hip : 0 < i := by omega
          rw [if_neg hi0] at HJS hmo
          have hcl : commaT.length = 2 := rfl
          rw [hcl] at hmo
          have HWS := Lib.hid (writeString50 w0 b _ [44, 32] _ HB0.out (by simp only [List.length_append, List.length_singleton, List.length_cons, List.length_nil]; omega))
          have HP := Lib.hid (fun w' (h : Bld w0 b (s ++ [40] ++ joinT g i ++ [44, 32]) w') => writeEmpty52 w0 b _ (.pointer (some ⟨eb, 0, none⟩)) w' h (by simp only [List.length_append, List.length_singleton, List.length_cons, List.length_nil]; omega))
          have HSQ : Hid (s ++ [40] ++ joinT g i ++ [44, 32] ++ emptyT = s ++ [40] ++ joinT g (i + 1)) := Lib.hid (by rw [HJS.out]; simp [commaT])
          clear hmo hi0 hcl
          go_wp2_with (fail)
          refine HWS.out.mono ?_
          rintro e1 w2 ⟨m2, rfl, hB2⟩
          have HB2 := Lib.hid hB2
          clear hB2
          go_wp2_with (fail)
          refine (HP.out _ HB2.out).mono ?_
          rintro e2 w3 ⟨rfl, hB3⟩
          have HB3 := Lib.hid hB3
          clear hB3
          go_wp2_with (fail)
          go_roundg (q - (i + 1))
          case measure => have := HI.out; omega
          case rel => exact ⟨i + 1, by omega, by go_num, by rw [← HSQ.out]; exact HB3.out, e, rfl, HSU⟩
      · have hpe2 : p < e := by omega
        have hsz : (seg flat p e).length = e - p := by rw [seg_length (by omega) (by rw [HN.out]; omega)]
        have hsl := fun w => run_sl24 A n cap (p : Int) (e : Int) p e rfl rfl (by omega) he2 hl0 w
        have hrw := fltC_seg (lo := p) (hi := e) HN.out HV.out (by omega) he2
        have hgE : g i = inBr (numsU st d (seg flat p e) (seg flat p e).length) := by
          rw [hgi]
          unfold placesT
          rw [if_neg (by omega)]
        have hwc := fun s' w' (h : Bld w0 b s' w') hl => writeFlat1_56 w0 eb b d hE (seg flat p e) (seg_mem HF.out) _ hrw st hs0 hs1 (by rw [hsz]; exact he3) (by omega) s' w' h hl
        obtain ⟨T, hT⟩ : ∃ T, inBr (numsU st d (seg flat p e) (seg flat p e).length) = T := ⟨_, rfl⟩
        rw [hT] at hgE
        simp only [hT] at hwc
        rw [hgE] at hmo HJS
        simp only [List.length_append] at hmo
        clear hgi hgE hrw hsz hT he3 hpe
        by_cases hi0 : i = 0
        · subst hi0
          rw [if_pos rfl] at HJS hmo
          rw [Nat.add_zero] at h0
          rw [show ((0 : Nat) : Int) = 0 from rfl]
          have HP := Lib.hid (fun w' (h : Bld w0 b (s ++ [40] ++ joinT g 0) w') => hwc _ w' h (by simp only [List.length_append, List.length_singleton]; simp at hmo; omega))
          have HSQ : Hid (s ++ [40] ++ joinT g 0 ++ T = s ++ [40] ++ joinT g (0 + 1)) := Lib.hid (by rw [HJS.out]; simp)
          clear hwc hmo
          go_wp2_with (fail)
          refine (HP.out _ HB0.out).mono ?_
          rintro e1 w2 ⟨rfl, hB2⟩
          have HB2 := Lib.hid hB2
          clear hB2
          go_wp2_with (fail)
          go_roundg (q - (0 + 1))
          case measure => have := HI.out; omega
          case rel => exact ⟨0 + 1, by omega, by go_num, by rw [← HSQ.out]; exact HB2.out, e, rfl, HSU⟩
        · have hib : ((i : Int) == 0) = false := beq_false_of_ne (by omega)
          have hip : 0 < i := by omega
          rw [if_neg hi0] at HJS hmo
          have hcl : commaT.length = 2 := rfl
          rw [hcl] at hmo
          have HWS := Lib.hid (writeString50 w0 b _ [44, 32] _ HB0.out (by simp only [List.length_append, List.length_singleton, List.length_cons, List.length_nil]; omega))
          have HP := Lib.hid (fun w' (h : Bld w0 b (s ++ [40] ++ joinT g i ++ [44, 32]) w') => hwc _ w' h (by simp only [List.length_append, List.length_singleton, List.length_cons, List.length_nil]; omega))
          have HSQ : Hid (s ++ [40] ++ joinT g i ++ [44, 32] ++ T = s ++ [40] ++ joinT g (i + 1)) := Lib.hid (by rw [HJS.out]; simp [commaT])
          clear hwc hmo hi0 hcl
          go_wp2_with (fail)
          refine HWS.out.mono ?_
          rintro e1 w2 ⟨m2, rfl, hB2⟩
          have HB2 := Lib.hid hB2
          clear hB2
          go_wp2_with (fail)
          refine (HP.out _ HB2.out).mono ?_
          rintro e2 w3 ⟨rfl, hB3⟩
          have HB3 := Lib.hid hB3
          clear hB3
          go_wp2_with (fail)
          go_roundg (q - (i + 1))
          case measure => have := HI.out; omega
          case rel => exact ⟨i + 1, by omega, by go_num, by rw [← HSQ.out]; exact HB3.out, e, rfl, HSU⟩
    · have ei : i = q := by omega
      subst ei
      have H3 := Lib.hid (writeRune66 w0 b _ 41 (by decide) wr hB (by have := HL.out; simp only [List.length_append, List.length_singleton]; omega))
      clear hB hi hp
      go_wp2_with (fail)
      refine H3.out.mono ?_
      rintro e w3 ⟨m3, rfl, hB3⟩
      have HB3 := Lib.hid hB3
      clear hB3
      go_wp2_with (fail)
      go_ret
      exact ⟨rfl, by simpa using HB3.out⟩

set_option maxRecDepth 100000 in
set_option maxHeartbeats 4000000 in
theorem writeFlat1Ends_60 (w0 : World) (eb b : Nat) (d : Int) (hE : Enc w0 eb d) (flat : List Nat) (hf : ∀ x ∈ flat, x < 18446744073709551616) (v : Value) (hv : RowAt w0 v flat.length 1 (fltC flat)) (st : Nat)
    (hL : flat.length ≤ 2097152) (start : Nat) (hsf : start ≤ flat.length) (ends : List Int) (u : Value) (hu : RowAt w0 u ends.length 1 (intC ends)) (hk : EOk st flat.length start ends)
    (s : List UInt8) (w : World) (hB : Bld w0 b s w) (hl : s.length + (inBr (joinT (fun k => pointT d (segAt flat start ends k)) ends.length)).length ≤ 140737488355328) :
    Calls Tryz.prog 60 #[.pointer (some ⟨eb, 0, none⟩), .pointer (some ⟨b, 0, none⟩), v, .int .i64 start, u] w (EWr w0 b (s ++ inBr (joinT (fun k => pointT d (segAt flat start ends k)) ends.length))) := by
  obtain ⟨A, cap, rfl, hl0, hl1, _⟩ := id hv
  obtain ⟨Au, capu, rfl, hu0, hu1, _⟩ := id hu
  unfold maxLen at hl1 hu1
  obtain ⟨n, hn⟩ : ∃ n, flat.length = n := ⟨_, rfl⟩
  obtain ⟨q, hq⟩ : ∃ q, ends.length = q := ⟨_, rfl⟩
  rw [hn] at hv hl0 hL hk hsf
  rw [hq] at hu hu0 hl ⊢
  rw [hn]
  obtain ⟨g, hg⟩ : ∃ g : Nat → List UInt8, (fun k => pointT d (segAt flat start ends k)) = g := ⟨_, rfl⟩
  rw [hg] at hl ⊢
  unfold inBr at hl ⊢
  simp only [List.length_append, List.length_singleton] at hl
  have H1 := Lib.hid (writeRune66 w0 b s 40 (by decide) w hB (by omega))
  have HMO := Lib.hid (fun i (h : i ≤ q) => joinT_mono g q i h)
  have HL := Lib.hid hl
  have HG := Lib.hid (fun k => (congrFun hg k).symm)
  have HK := Lib.hid hk
  have HV := Lib.hid hv
  have HU := Lib.hid hu
  have HF := Lib.hid hf
  have HN := Lib.hid hn
  have HQ := Lib.hid hq
  have HPL : Hid (∀ i, i ≤ q → prevE start ends i ≤ n) := Lib.hid fun i hi => by
    cases i with
    | zero => exact hsf
    | succ i =>
      rw [prevE_succ]
      exact (hk i (by omega)).2.2.1
  clear hB hl hv hf hn hu hk hq hg
  go_enter Tryz.func60, Tryz.ntmps60
  go_wp2_with (fail)
  refine H1.out.mono ?_
  rintro e w1 ⟨m1, rfl, hB1⟩
  have HB1 := Lib.hid hB1
  clear hB1
  go_wp2_with (fail)
  go_loopg [3, 31] q (fun gk v3 vc wr => ∃ i : Nat, i + gk = q ∧ vc = .int .i64 i ∧ Bld w0 b (s ++ [40] ++ joinT g i) wr ∧ ∃ p : Nat, v3 = .int .i64 p ∧ Hid (p = prevE start ends i))
  case atStart => exact ⟨0, by omega, by go_num, by simpa [joinT] using HB1.out, start, rfl, Lib.hid rfl⟩
  case round =>
    obtain ⟨i, hi, rfl, hB, p, rfl, hp⟩ := hrel
    by_cases hlt : i < q
    · have HI := Lib.hid hi
      obtain ⟨bb, o, rfl, _, h0⟩ := (HU.out.below (Nat.le_refl _) hB.below).one hlt
      obtain ⟨he0, he1, he2, he3⟩ := HK.out i (by rw [HQ.out]; exact hlt)
      have hgi := HG.out i
      have hsu := prevE_succ start ends i
      unfold segAt at hgi
      unfold intC at h0
      obtain ⟨e, hee⟩ : ∃ e : Nat, ends.getD i 0 = (e : Int) := ⟨(ends.getD i 0).toNat, by omega⟩
      rw [hee] at h0 he1 he2 he3 hgi hsu
      rw [← hp.out] at hgi he1 he3
      simp only [Int.toNat_natCast] at he1 he2 he3 hgi hsu
      have hmo := HMO.out (i + 1) (by omega)
      have hjs : joinT g (i + 1) = joinT g i ++ (if i = 0 then [] else commaT) ++ g i := rfl
      rw [hjs] at hmo
      have HJS := Lib.hid hjs
      have hL2 := HL.out
      have HSU := Lib.hid hsu.symm
      have HB0 := Lib.hid hB
      clear hi hee hjs hsu he0 hB
      by_cases hpe : e ≤ p
      · have hep : e = p := by omega
        have hsz : (seg flat p e).length = 0 := by rw [seg_length (by omega) (by rw [HN.out]; omega)]; omega
        have hgE : g i = emptyT := by
          rw [hgi]
          unfold pointT
          rw [if_pos hsz]
        rw [hgE] at hmo HJS
        have hel : emptyT.length = 5 := rfl
        simp only [List.length_append, hel] at hmo
        clear hgi hgE hsz hep he3 hel
        by_cases hi0 : i = 0
        · subst hi0
          rw [if_pos rfl] at HJS hmo
          rw [Nat.add_zero] at h0
          rw [show ((0 : Nat) : Int) = 0 from rfl]
          have HP := Lib.hid (fun w' (h : Bld w0 b (s ++ [40] ++ joinT g 0) w') => writeEmpty52 w0 b _ (.pointer (some ⟨eb, 0, none⟩)) w' h (by simp only [List.length_append, List.length_singleton]; simp at hmo; omega))
          have HSQ : Hid (s ++ [40] ++ joinT g 0 ++ emptyT = s ++ [40] ++ joinT g (0 + 1)) := Lib.hid (by rw [HJS.out]; simp)
          clear hmo
          go_wp2_with (fail)
          refine (HP.out _ HB0.out).mono ?_
          rintro e1 w2 ⟨rfl, hB2⟩
          have HB2 := Lib.hid hB2
          clear hB2
          go_wp2_with (fail)
          go_roundg (q - (0 + 1))
          case measure => have := HI.out; omega
          case rel => exact ⟨0 + 1, by omega, by go_num, by rw [← HSQ.out]; exact HB2.out, e, rfl, HSU⟩
        · have hib : ((i : Int) == 0) = false := beq_false_of_ne (by omega)
          have hip : 0 < i := by omega
          rw [if_neg hi0] at HJS hmo
          have hcl : commaT.length = 2 := rfl
          rw [hcl] at hmo
          have HWS := Lib.hid (writeString50 w0 b _ [44, 32] _ HB0.out (by simp only [List.length_append, List.length_singleton, List.length_cons, List.length_nil]; omega))
          have HP := Lib.hid (fun w' (h : Bld w0 b (s ++ [40] ++ joinT g i ++ [44, 32]) w') => writeEmpty52 w0 b _ (.pointer (some ⟨eb, 0, none⟩)) w' h (by simp only [List.length_append, List.length_singleton, List.length_cons, List.length_nil]; omega))
          have HSQ : Hid (s ++ [40] ++ joinT g i ++ [44, 32] ++ emptyT = s ++ [40] ++ joinT g (i + 1)) := Lib.hid (by rw [HJS.out]; simp [commaT])
          clear hmo hi0 hcl
          go_wp2_with (fail)
          refine HWS.out.mono ?_
          rintro e1 w2 ⟨m2, rfl, hB2⟩
          have HB2 := Lib.hid hB2
          clear hB2
          go_wp2_with (fail)
          refine (HP.out _ HB2.out).mono ?_
          rintro e2 w3 ⟨rfl, hB3⟩
          have HB3 := Lib.hid hB3
          clear hB3
          go_wp2_with (fail)
          go_roundg (q - (i + 1))
          case measure => have := HI.out; omega
          case rel => exact ⟨i + 1, by omega, by go_num, by rw [← HSQ.out]; exact HB3.out, e, rfl, HSU⟩
      · have hpe2 : p < e := by omega
        have hsz : (seg flat p e).length = e - p := by rw [seg_length (by omega) (by rw [HN.out]; omega)]
        have hsl := fun w => run_sl24 A n cap (p : Int) (e : Int) p e rfl rfl (by omega) he2 hl0 w
        have hrw := fltC_seg (lo := p) (hi := e) HN.out HV.out (by omega) he2
        have hgE : g i = numsU 0 d (seg flat p e) (seg flat p e).length := by
          rw [hgi]
          unfold pointT
          rw [if_neg (by omega)]
        have hwc := fun s' w' (h : Bld w0 b s' w') hl => writeCoord75 w0 eb b d hE (seg flat p e) (seg_mem HF.out) _ hrw s' w' h hl
        obtain ⟨T, hT⟩ : ∃ T, numsU 0 d (seg flat p e) (seg flat p e).length = T := ⟨_, rfl⟩
        rw [hT] at hgE
        simp only [hT] at hwc
        rw [hgE] at hmo HJS
        simp only [List.length_append] at hmo
        clear hgi hgE hrw hsz hT he3 hpe
        by_cases hi0 : i = 0
        · subst hi0
          rw [if_pos rfl] at HJS hmo
          rw [Nat.add_zero] at h0
          rw [show ((0 : Nat) : Int) = 0 from rfl]
          have HP := Lib.hid (fun w' (h : Bld w0 b (s ++ [40] ++ joinT g 0) w') => hwc _ w' h (by simp only [List.length_append, List.length_singleton]; simp at hmo; omega))
          have HSQ : Hid (s ++ [40] ++ joinT g 0 ++ T = s ++ [40] ++ joinT g (0 + 1)) := Lib.hid (by rw [HJS.out]; simp)
          clear hwc hmo
          go_wp2_with (fail)
          refine (HP.out _ HB0.out).mono ?_
          rintro e1 w2 ⟨rfl, hB2⟩
          have HB2 := Lib.hid hB2
          clear hB2
          go_wp2_with (fail)
          go_roundg (q - (0 + 1))
          case measure => have := HI.out; omega
          case rel => exact ⟨0 + 1, by omega, by go_num, by rw [← HSQ.out]; exact HB2.out, e, rfl, HSU⟩
        · have hib : ((i : Int) == 0) = false := beq_false_of_ne (by omega)
          have hip : 0 < i := by omega
          rw [if_neg hi0] at HJS hmo
          have hcl : commaT.length = 2 := rfl
          rw [hcl] at hmo
          have HWS := Lib.hid (writeString50 w0 b _ [44, 32] _ HB0.out (by simp only [List.length_append, List.length_singleton, List.length_cons, List.length_nil]; omega))
          have HP := Lib.hid (fun w' (h : Bld w0 b (s ++ [40] ++ joinT g i ++ [44, 32]) w') => hwc _ w' h (by simp only [List.length_append, List.length_singleton, List.length_cons, List.length_nil]; omega))
          have HSQ : Hid (s ++ [40] ++ joinT g i ++ [44, 32] ++ T = s ++ [40] ++ joinT g (i + 1)) := Lib.hid (by rw [HJS.out]; simp [commaT])
          clear hwc hmo hi0 hcl
          go_wp2_with (fail)
          refine HWS.out.mono ?_
          rintro e1 w2 ⟨m2, rfl, hB2⟩
          have HB2 := Lib.hid hB2
          clear hB2
          go_wp2_with (fail)
          refine (HP.out _ HB2.out).mono ?_
          rintro e2 w3 ⟨rfl, hB3⟩
          have HB3 := Lib.hid hB3
          clear hB3
          go_wp2_with (fail)
          go_roundg (q - (i + 1))
          case measure => have := HI.out; omega
          case rel => exact ⟨i + 1, by omega, by go_num, by rw [← HSQ.out]; exact HB3.out, e, rfl, HSU⟩
    · have ei : i = q := by omega
      subst ei
      have H3 := Lib.hid (writeRune66 w0 b _ 41 (by decide) wr hB (by have := HL.out; simp only [List.length_append, List.length_singleton]; omega))
      clear hB hi hp
      go_wp2_with (fail)
      refine H3.out.mono ?_
      rintro e w3 ⟨m3, rfl, hB3⟩
      have HB3 := Lib.hid hB3
      clear hB3
      go_wp2_with (fail)
      go_ret
      exact ⟨rfl, by simpa using HB3.out⟩
end Go.Proofs.YtokmamakmaojpaaGreatDoor

/-
  A12. leftShift of internal/strconv's decimal.
  B3. Plain arithmetic of rightShift.
-/
import Derived.Test.YtokmamakmaojpaaGreatDoorM07
import Derived.Test.YtokmamakmaojpaaGreatDoorM04
import Derived.Deep.DeepCutAuto
set_option linter.unusedVariables false
set_option linter.unusedSimpArgs false
/- A12. -/
namespace Go.Proofs.YtokmamakmaojpaaGreatDoor
open Go.RowKit

theorem quiet_still {P : Program} {f : FuncId} {args : Array Value} {w : World} {n : Nat} {v : Value} (h : Calls P f args (w.drewN n) (Still v (w.drewN n))) :
    Calls P f args (w.drewN n) fun e w'' => e = .returned v ∧ ∃ m, w'' = w.drewN m :=
  h.mono fun _ _ ⟨he, m, hm⟩ => ⟨he, n + m, hm.trans (drewN2 w n m)⟩

theorem slice179 (b L : Nat) (w : World) (h : L ≤ 800) : (Instr.sliceAt 179 (.pointer (some ⟨b, 0, none⟩)) (some (.int .i64 0)) (some (.int .i64 (L : Int))) none).run Tryz.prog w = .ok (.slice (some ⟨b, 0, none⟩) L 800) w := by
  have hal : Tryz.prog.arrayLen 179 = 800 := by kernel_rfl
  have hs : ((sizeOf (Tryz.prog.elem 179)).run Tryz.prog w) = .ok 1 w := by
    have he : Tryz.prog.elem 179 = 5 := by kernel_rfl
    rw [he]
    go_simp
  rw [run_sliceAt_array_lh w 179 ⟨b, 0, none⟩ (by kernel_rfl) .i64 .i64 0 L (by omega) (by omega) (by rw [hal]; omega), hs, hal]
  simp [slicedAt, Addr.add]

def digM (P m : Nat) : Nat := P / 10 ^ m % 10
def chM (P m : Nat) : UInt8 := UInt8.ofNat (48 + digM P m)
def dF (P : Nat) (d0 : Nat → UInt8) (M m : Nat) : Nat → UInt8 := fun i => if i + m < M ∨ M ≤ i then d0 i else chM P (M - 1 - i)
def trF (P : Nat) (tr : Bool) (M : Nat) : Nat → Bool
  | 0 => tr
  | m + 1 => if decide (800 ≤ M - 1 - m) && decide (digM P m ≠ 0) then true else trF P tr M m
theorem digM_lt (P m : Nat) : digM P m < 10 := Nat.mod_lt _ (by omega)
theorem chM_nat (P m : Nat) : ((chM P m).toNat : Int) = 48 + (digM P m : Int) := by
  have := digM_lt P m
  have h : (chM P m).toNat = 48 + digM P m := by
    unfold chM
    rw [UInt8.toNat_ofNat']
    omega
  rw [h]; omega
theorem dF_step {P : Nat} {d0 : Nat → UInt8} {M m : Nat} (hm : m < M) (i : Nat) : upd (dF P d0 M m) (M - 1 - m) (chM P m) i = dF P d0 M (m + 1) i := by
  unfold upd dF
  by_cases h : i = M - 1 - m
  · rw [if_pos h, if_neg (by omega)]
    congr 1
    omega
  · rw [if_neg h]
    by_cases h2 : i + m < M ∨ M ≤ i
    · rw [if_pos h2, if_pos (by omega)]
    · rw [if_neg h2, if_neg (by omega)]
theorem dF_skip {P : Nat} {d0 : Nat → UInt8} {M m : Nat} (hm : m < M) (h : 800 ≤ M - 1 - m) (i : Nat) (hi : i < 800) : dF P d0 M m i = dF P d0 M (m + 1) i := by
  unfold dF
  rw [if_pos (by omega), if_pos (by omega)]
theorem dF_zero {P : Nat} {d0 : Nat → UInt8} {M : Nat} (i : Nat) : d0 i = dF P d0 M 0 i := by
  unfold dF
  rw [if_pos (by omega)]
theorem dF_cell {P D : Nat} {l : List UInt8} {d : Nat → UInt8} {M m g : Nat} (hdd : ∀ i, i < l.length → l[i]? = some (d i)) (hd : ∀ c ∈ l, isDig c) (hD : valL l = D) (hg : g + m + 1 = l.length) (hM : l.length ≤ M) :
    ((dF P d M m g).toNat : Int) = 48 + ((D / 10 ^ m % 10 : Nat) : Int) := by
  unfold dF
  rw [if_pos (by omega), ← getD_of (hdd g (by omega)), show g = l.length - 1 - m by omega, valL_digit l m hd (by omega), hD]
  omega
theorem lshift_step {D k m P cr q N : Nat} (hP : D * 2 ^ k = P) (hcr : carry D k m = cr) (hq : D / 10 ^ m % 10 = q) (hN : cr + q * 2 ^ k = N) : N / 10 = carry D k (m + 1) ∧ N % 10 = digM P m := by
  subst hP hcr hq hN
  exact ⟨carry_quo D k m, carry_rem D k m⟩
theorem trF_skip {P : Nat} {tr : Bool} {M m : Nat} (h : M - 1 - m < 800) : trF P tr M (m + 1) = trF P tr M m := by
  rw [trF, if_neg (by simp; omega)]
theorem trF_zero {P : Nat} {tr : Bool} {M m : Nat} (h : digM P m = 0) : trF P tr M (m + 1) = trF P tr M m := by
  rw [trF, if_neg (by simp; omega)]
theorem trF_one {P : Nat} {tr : Bool} {M m : Nat} (h : 800 ≤ M - 1 - m) (h2 : digM P m ≠ 0) : trF P tr M (m + 1) = true := by
  rw [trF, if_pos (by simp; omega)]

set_option maxRecDepth 100000 in
set_option maxHeartbeats 4000000 in
theorem leftShift_walk (l : List UInt8) (dp : Int) (tr : Bool) (k dl δ M D P : Nat) (hl0 : 0 < l.length) (hl : l.length ≤ 800) (hd : ∀ c ∈ l, isDig c) (hk0 : 1 ≤ k) (hk : k ≤ 60)
    (hdp0 : -100000 ≤ dp) (hdp1 : dp ≤ 100000) (hdl : cheatD k = (dl : Int)) (hC : Cheat k (cheatS k) dl) (hδ : (if pless l (cheatS k) = true then dl - 1 else dl) = δ) (hM : l.length + δ = M) (hD : valL l = D) (hP : D * 2 ^ k = P) (hlt : P < 10 ^ M) (hge : 10 ^ (M - 1) ≤ P)
    (b : Nat) (w : World) (hT : Tabs w) (h : Dec b l dp tr w) :
    Calls Tryz.prog 117 #[.pointer (some ⟨b, 0, none⟩), .int .u64 k] w fun e w' => e = .returned (.tuple #[]) ∧ ∃ l2 : List UInt8, l2 = (List.range (min M 800)).map (fun i => chM P (M - 1 - i)) ∧ Dec b (trimL l2) (trimP l2 (dp + δ)) (trF P tr M M) w' ∧ Kp b w w' := by
  obtain ⟨d, hDD, hdd⟩ := h
  obtain ⟨cb, co, hcb, c0, c1, c2⟩ := hT.cheat
  have c1k := c1 k (by omega)
  have c2k := c2 k (by omega)
  rw [hdl] at c1k
  have cnd := hDD.nd
  have HP := Lib.hid (fun n => pless_any b l (cheatS k) 800 (w.drewN n) hl hC.len (by omega) (fun i hi => by
    have := hDD.digit i (by omega)
    rw [← getD_of (hdd i hi)] at this
    exact this))
  have hsl := fun w' => slice179 b l.length w' hl
  have hδ1 : δ ≤ 19 := by rw [← hδ]; have := hC.top; split <;> omega
  have htop := hC.top
  have hone := hC.one
  clear c1 c2 hT
  obtain ⟨L, hL⟩ : ∃ L, l.length = L := ⟨_, rfl⟩
  obtain ⟨bp, hbp⟩ : ∃ bp, pless l (cheatS k) = bp := ⟨_, rfl⟩
  rw [hbp] at hδ HP
  rw [hL] at cnd hl hl0 hM HP hsl
  have HL := Lib.hid hL
  have HB := Lib.hid hbp
  have HCL := Lib.hid (fun m g (hg : g + m + 1 = L) => dF_cell (P := P) (M := M) hdd hd hD (hg.trans hL.symm) (by omega))
  have HPP := Lib.hid hP
  have HF := Lib.hid (fun (w1 : World) (n : Nat) (h1 : DecD b (dF P d M M) n (dp + δ) (trF P tr M M) w1) (h2 : n = min M 800) => trim_dec b ((List.range (min M 800)).map (fun i => chM P (M - 1 - i))) (dp + δ) (trF P tr M M) w1
    ⟨dF P d M M, by rw [List.length_map, List.length_range, ← h2]; exact h1, fun i hi => by
      rw [List.length_map, List.length_range] at hi
      rw [List.getElem?_map, List.getElem?_range hi, dF, if_neg (by omega)]
      rfl⟩ (by rw [List.length_map, List.length_range]; omega))
  have HLT := Lib.hid hlt
  have HGE := Lib.hid hge
  have HCE : Hid (carry D k L = P / 10 ^ L) := Lib.hid (by rw [← hP]; exact carry_end D k L (by rw [← hD, ← hL]; exact valL_lt l hd))
  have Hd := Lib.hid hdd
  rw [hL] at hDD
  have HD := Lib.hid hDD
  clear hL hbp hC hD hd hDD hdd hP hlt hge
  go_enter Tryz.func117, Tryz.ntmps117
  go_upto_if 30 with (fail)
  go_quiet ((go_at_call 127; exact quiet_still (HP.out _)))
  go_upto_if 30 with (fail)
  go_cut [4] (fun s4 wx => s4 = .int .i64 (δ : Int) ∧ ∃ n, wx = w.drewN n)
  case first =>
    as_aux_lemma =>
      cases bp
      · go_wp2_with (fail)
        go_meet
        exact ⟨by simp at hδ; rw [hδ], _, rfl⟩
      · go_wp2_with (fail)
        go_meet
        exact ⟨by simp at hδ; go_num, _, rfl⟩
  case rest =>
    obtain ⟨rfl, n, rfl⟩ := hcut
    go_wp2_with (fail)
    go_loopg [5, 6, 7, 8, 9] L (fun g v5 v6 v7 _ _ wr => v5 = .int .i64 ((g : Int) - 1) ∧ v6 = .int .i64 ((g : Int) + δ) ∧ v7 = .int .u64 ((carry D k (L - g) : Nat) : Int) ∧ DecD b (dF P d M (L - g)) L dp (trF P tr M (L - g)) wr ∧ Kp b w wr ∧ g ≤ L)
    case atStart =>
      rw [Nat.sub_self]
      refine ⟨by go_num, by go_num, by rw [carry_zero]; rfl, (HD.out.drewN n).congr fun i _ => dF_zero i, (Kp.refl b w).drewN n, Nat.le_refl _⟩
    case round =>
      obtain ⟨rfl, rfl, rfl, hR, hK, hg⟩ := hrel
      cases gk with
      | zero =>
        have em : ((0 : Nat) : Int) - 1 = -1 := by omega
        have em2 : ((0 : Nat) : Int) + δ = (δ : Int) := by omega
        rw [em, em2]
        clear em em2
        rw [Nat.sub_zero] at hR ⊢
        obtain ⟨N, hN⟩ : ∃ N, P / 10 ^ L = N := ⟨_, rfl⟩
        rw [HCE.out, hN]
        have hNl : N < 18446744073709551616 := by
          rw [← hN, ← HCE.out]
          exact Nat.lt_of_lt_of_le (carry_lt D k L) (Nat.le_trans (Nat.pow_le_pow_right (by omega) hk : 2 ^ k ≤ 2 ^ 60) (by decide))
        go_wp2_with (fail)
        go_loopg [6, 7, 10, 11] δ (fun g v6 v7 _ _ wr => v6 = .int .i64 (g : Int) ∧ v7 = .int .u64 ((P / 10 ^ (M - g) : Nat) : Int) ∧ DecD b (dF P d M (M - g)) L dp (trF P tr M (M - g)) wr ∧ Kp b w wr ∧ g ≤ δ)
        case atStart =>
          have e : M - δ = L := by omega
          rw [e, hN]
          exact ⟨rfl, rfl, hR, hK, Nat.le_refl _⟩
        case round =>
          clear hR hK hN hNl N
          obtain ⟨rfl, rfl, hR, hK, hg⟩ := hrel
          obtain ⟨m, hm⟩ : ∃ m, M - gk = m := ⟨_, rfl⟩
          rw [hm] at hR ⊢
          obtain ⟨N, hN⟩ : ∃ N, P / 10 ^ m = N := ⟨_, rfl⟩
          have hNl : N < 18446744073709551616 := by
            have h1 : P / 10 ^ m ≤ P / 10 ^ L := Nat.div_le_div_left (Nat.pow_le_pow_right (by omega) (by omega)) (Nat.pow_pos (by omega))
            rw [hN, ← HCE.out] at h1
            exact Nat.lt_of_le_of_lt h1 (Nat.lt_of_lt_of_le (carry_lt D k L) (Nat.le_trans (Nat.pow_le_pow_right (by omega) hk : 2 ^ k ≤ 2 ^ 60) (by decide)))
          rw [hN]
          have HN := Lib.hid hN
          clear hN
          by_cases h0 : N = 0
          · have hgk : gk = 0 := by
              rcases Nat.eq_zero_or_pos gk with h | h
              · exact h
              · exfalso
                have h1 := HGE.out
                have h2 : P < 10 ^ m := by
                  have := HN.out
                  rw [h0] at this
                  exact (Nat.div_eq_zero_iff_lt (Nat.pow_pos (by omega))).1 this
                have h3 : 10 ^ m ≤ 10 ^ (M - 1) := Nat.pow_le_pow_right (by omega) (by omega)
                omega
            subst h0
            subst hgk
            have hmM : m = M := by omega
            subst hmM
            have cn := hR.nd
            have cp := hR.dp
            have f0 := hR.frozen 800
            have f1 := hR.frozen 801
            have hdp3 : dp + (δ : Int) ≤ 200000 := by omega
            by_cases h8 : 800 ≤ L + δ
            · have hb8 : decide (800 ≤ (L : Int) + δ) = true := by simp; omega
              go_wp2_with (go_at_call 116; refine (HF.out _ _ (((hR.setNd (L + δ)).setNd 800).setDp (dp + δ)) (by omega)).mono ?_; rintro e w' ⟨rfl, h3, h4⟩; have H3 := Lib.hid h3; have H4 := Lib.hid h4; clear h3 h4)
              go_end0
              exact ⟨rfl, _, rfl, H3.out, (((hK.setCell _ _).setCell _ _).setCell _ _).trans H4.out⟩
            · have hb8 : decide (800 ≤ (L : Int) + δ) = false := by simp; omega
              go_wp2_with (go_at_call 116; refine (HF.out _ _ ((hR.setNd (L + δ)).setDp (dp + δ)) (by omega)).mono ?_; rintro e w' ⟨rfl, h3, h4⟩; have H3 := Lib.hid h3; have H4 := Lib.hid h4; clear h3 h4)
              go_end0
              exact ⟨rfl, _, rfl, H3.out, ((hK.setCell _ _).setCell _ _).trans H4.out⟩
          · have hN0 : decide (0 < N) = true := by simp; omega
            cases gk with
            | zero =>
              exfalso
              have h1 := HLT.out
              have h2 := HN.out
              rw [show m = M by omega, Nat.div_eq_of_lt h1] at h2
              exact h0 h2.symm
            | succ g =>
              obtain ⟨Q, hQ⟩ : ∃ Q, N / 10 = Q := ⟨_, rfl⟩
              obtain ⟨R, hR0⟩ : ∃ R, N % 10 = R := ⟨_, rfl⟩
              have s1 : P / 10 ^ (m + 1) = Q := by rw [Nat.pow_succ, ← Nat.div_div_eq_div_mul, HN.out, hQ]
              have s2 : digM P m = R := by unfold digM; rw [HN.out, hR0]
              have S1 := Lib.hid s1
              have S2 := Lib.hid s2
              have e3 : (N : Int).tdiv 10 = Q := by rw [← hQ]; rfl
              have e4 : (N : Int) - 10 * Q = R := by omega
              have hQl : Q < 1844674407370955162 := by omega
              have hRl : R < 10 := by omega
              have hgs : ((g + 1 : Nat) : Int) = (g : Int) + 1 := by omega
              rw [hgs]
              clear hgs s1 s2 hQ hR0 h0
              have f0 := hR.frozen g
              have f1 := hR.frozen 803
              by_cases h8 : g < 800
              · have hb : decide ((g : Int) < 800) = true := by simp; omega
                have c2 := hR.digit g h8
                obtain ⟨z, hz⟩ : ∃ z : Int, ((dF P d M m g).toNat : Int) = z := ⟨_, rfl⟩
                rw [hz] at c2
                clear hz
                go_wp2_with (fail)
                go_roundg g
                case measure => omega
                case rel =>
                  have hm1 : M - g = m + 1 := by omega
                  rw [hm1]
                  refine ⟨by go_num, by rw [S1.out], ?_, hK.setCell _ _, by omega⟩
                  have hx : (R : Int) + 48 = ((chM P m).toNat : Int) := by rw [chM_nat, S2.out]; omega
                  rw [hx, trF_skip (by omega)]
                  have hi : g = M - 1 - m := by omega
                  rw [hi]
                  exact (hR.setD (M - 1 - m) (by omega) _).congr fun i _ => dF_step (by omega) i
              · omega
      | succ g =>
        obtain ⟨m, hm⟩ : ∃ m, L - (g + 1) = m := ⟨_, rfl⟩
        rw [hm] at hR ⊢
        have em : ((g + 1 : Nat) : Int) - 1 = (g : Int) := by omega
        have em2 : ((g + 1 : Nat) : Int) + δ = (g : Int) + δ + 1 := by omega
        rw [em, em2]
        clear em em2
        obtain ⟨cr, hcr⟩ : ∃ cr, carry D k m = cr := ⟨_, rfl⟩
        obtain ⟨q, hq⟩ : ∃ q, D / 10 ^ m % 10 = q := ⟨_, rfl⟩
        obtain ⟨T, hT⟩ : ∃ T, q * 2 ^ k = T := ⟨_, rfl⟩
        obtain ⟨N, hN⟩ : ∃ N, cr + T = N := ⟨_, rfl⟩
        obtain ⟨Q, hQ⟩ : ∃ Q, N / 10 = Q := ⟨_, rfl⟩
        obtain ⟨R, hR0⟩ : ∃ R, N % 10 = R := ⟨_, rfl⟩
        have h2k : 2 ^ k ≤ 1152921504606846976 := (Nat.pow_le_pow_right (by omega) hk : 2 ^ k ≤ 2 ^ 60)
        have hcl : cr < 1152921504606846976 := by
          rw [← hcr]
          exact Nat.lt_of_lt_of_le (carry_lt D k m) h2k
        have hq9 : q < 10 := by rw [← hq]; exact Nat.mod_lt _ (by omega)
        have hTl : T ≤ 9 * 1152921504606846976 := by rw [← hT]; exact Nat.mul_le_mul (by omega) h2k
        have c1 := hR.digit g (by omega)
        rw [HCL.out m g (by omega), hq] at c1
        obtain ⟨s1, s2⟩ := lshift_step (N := N) HPP.out hcr hq (by rw [hT]; exact hN)
        rw [hQ] at s1
        rw [hR0] at s2
        have S1 := Lib.hid s1
        have S2 := Lib.hid s2
        have e1 : IntKind.u64.wrap ((48 + (q : Int) - 48) * 2 ^ k) = (T : Int) := by
          rw [show (48 + (q : Int) - 48) * 2 ^ k = (T : Int) by rw [← hT, show 48 + (q : Int) - 48 = q by omega]; simp, IntKind.wrap_u64]
          omega
        have e2 : (cr : Int) + T = N := by omega
        have e3 : (N : Int).tdiv 10 = Q := by rw [← hQ]; rfl
        have e4 : (N : Int) - 10 * Q = R := by omega
        have hNl : N < 18446744073709551616 := by omega
        have hQl : Q < 1844674407370955162 := by omega
        have hRl : R < 10 := by omega
        have f0 := hR.frozen (g + δ)
        have f1 := hR.frozen 803
        rw [hcr]
        clear s1 s2 hT hN hQ hR0 hcl hq hTl h2k
        by_cases h8 : g + δ < 800
        · have hb : decide ((g : Int) + δ < 800) = true := by simp; omega
          have c2 := hR.digit (g + δ) h8
          obtain ⟨z, hz⟩ : ∃ z : Int, ((dF P d M m (g + δ)).toNat : Int) = z := ⟨_, rfl⟩
          rw [hz] at c2
          clear hz
          go_wp2_with (fail)
          go_roundg g
          case measure => omega
          case rel =>
            have hm1 : L - g = m + 1 := by omega
            rw [hm1]
            refine ⟨by go_num, by go_num, by rw [S1.out], ?_, hK.setCell _ _, by omega⟩
            have hx : (R : Int) + 48 = ((chM P m).toNat : Int) := by rw [chM_nat, ← S2.out]; omega
            rw [hx, trF_skip (by omega)]
            have hi : g + δ = M - 1 - m := by omega
            rw [hi]
            exact (hR.setD (M - 1 - m) (by omega) _).congr fun i _ => dF_step (by omega) i
        · have hb : decide ((g : Int) + δ < 800) = false := by simp; omega
          have c2 := hR.tr
          by_cases hr0 : R = 0
          · have hb2 : ((R : Int) == 0) = true := by simp; omega
            go_wp2_with (fail)
            go_roundg g
            case measure => omega
            case rel =>
              have hm1 : L - g = m + 1 := by omega
              rw [hm1]
              refine ⟨by go_num, by go_num, by rw [S1.out], ?_, hK, by omega⟩
              rw [trF_zero (by rw [← S2.out]; exact hr0)]
              exact hR.congr fun i hi => dF_skip (by omega) (by omega) i hi
          · have hb2 : ((R : Int) == 0) = false := by simp; omega
            go_wp2_with (fail)
            go_roundg g
            case measure => omega
            case rel =>
              have hm1 : L - g = m + 1 := by omega
              rw [hm1]
              refine ⟨by go_num, by go_num, by rw [S1.out], ?_, hK.setCell _ _, by omega⟩
              rw [trF_one (by omega) (by rw [← S2.out]; exact hr0)]
              exact (hR.setTr true).congr fun i hi => dF_skip (by omega) (by omega) i hi
theorem trimN_head (l : List UInt8) (hl : 0 < l.length) (h : l[0]? ≠ some 48) : 0 < trimN l := by
  rcases Nat.eq_zero_or_pos (trimN l) with e | e
  · exact absurd (trimN_zeros l 0 (by omega) hl) h
  · exact e
theorem trimL_head (l : List UInt8) (hl : 0 < l.length) (h : l[0]? ≠ some 48) : 0 < (trimL l).length ∧ (trimL l)[0]? ≠ some 48 := by
  have h1 := trimN_head l hl h
  refine ⟨by rw [trimL_length]; exact h1, ?_⟩
  unfold trimL
  rw [List.getElem?_take, if_pos h1]
  exact h

/-- What a decimal holds all along: digits, the first of them no nought. -/
structure Good (l : List UInt8) : Prop where
  pos : 0 < l.length
  top : l.length ≤ 800
  dig : ∀ c ∈ l, isDig c
  head : l[0]? ≠ some 48

theorem chM_dig (P m : Nat) : isDig (chM P m) := by
  have h := chM_nat P m
  have h2 := digM_lt P m
  unfold isDig
  omega

/-- leftShift: digits that are none but what l and k tell. -/
theorem leftShift_ex (l : List UInt8) (dp : Int) (tr : Bool) (k : Nat) (hl : Good l) (hk0 : 1 ≤ k) (hk : k ≤ 60) (hdp0 : -100000 ≤ dp) (hdp1 : dp ≤ 100000) :
    ∃ l' dp' tr', (Good l' ∧ dp ≤ dp' ∧ dp' ≤ dp + 19) ∧ ∀ b w, Tabs w → Dec b l dp tr w →
      Calls Tryz.prog 117 #[.pointer (some ⟨b, 0, none⟩), .int .u64 k] w fun e w' => e = .returned (.tuple #[]) ∧ Dec b l' dp' tr' w' ∧ Kp b w w' := by
  obtain ⟨dl, hdl, hC⟩ := cheat_row k hk0 hk
  obtain ⟨δ, hδ⟩ : ∃ δ, (if pless l (cheatS k) = true then dl - 1 else dl) = δ := ⟨_, rfl⟩
  obtain ⟨M, hM⟩ : ∃ M, l.length + δ = M := ⟨_, rfl⟩
  have hlt := shift_lt hl.dig hC
  have hge := shift_ge hl.dig hC (valL_head hl.dig hl.head hl.pos) hl.pos
  rw [hδ, hM] at hlt hge
  have hM0 : 0 < M := by have := hl.pos; omega
  have hδ1 : δ ≤ 19 := by rw [← hδ]; have := hC.top; split <;> omega
  obtain ⟨l2, hl2⟩ : ∃ l2, (List.range (min M 800)).map (fun i => chM (valL l * 2 ^ k) (M - 1 - i)) = l2 := ⟨_, rfl⟩
  have hlen : l2.length = min M 800 := by rw [← hl2, List.length_map, List.length_range]
  have hdig : ∀ c ∈ l2, isDig c := fun c hc => by
    rw [← hl2, List.mem_map] at hc
    obtain ⟨i, _, rfl⟩ := hc
    exact chM_dig _ _
  have hhead : l2[0]? ≠ some 48 := by
    rw [← hl2, List.getElem?_map, List.getElem?_range (by omega)]
    intro e
    have e1 : chM (valL l * 2 ^ k) (M - 1 - 0) = 48 := Option.some.inj e
    have e2 := chM_nat (valL l * 2 ^ k) (M - 1 - 0)
    rw [e1] at e2
    have e3 : digM (valL l * 2 ^ k) (M - 1) = 0 := by
      have : ((48 : UInt8).toNat : Int) = 48 := rfl
      rw [Nat.sub_zero] at e2
      omega
    unfold digM at e3
    have hp : 0 < 10 ^ (M - 1) := Nat.pow_pos (by omega)
    have h1 : 1 ≤ valL l * 2 ^ k / 10 ^ (M - 1) := (Nat.le_div_iff_mul_le hp).2 (by rw [Nat.one_mul]; exact hge)
    have h2 : valL l * 2 ^ k / 10 ^ (M - 1) < 10 := by
      have e4 : 10 ^ M = 10 * 10 ^ (M - 1) := by rw [Nat.mul_comm, ← Nat.pow_succ, show (M - 1).succ = M by omega]
      rw [Nat.div_lt_iff_lt_mul hp, ← e4]
      exact hlt
    omega
  have hT := trimL_head l2 (by omega) hhead
  have hTP : trimP l2 (dp + δ) = dp + δ := by
    unfold trimP
    rw [if_neg (by have := trimN_head l2 (by omega) hhead; omega)]
  refine ⟨trimL l2, dp + δ, trF (valL l * 2 ^ k) tr M M, ⟨⟨hT.1, by rw [trimL_length]; have := trimN_le l2; omega, fun c hc => hdig c (trimN_zero_mem l2 c hc), hT.2⟩, by omega, by omega⟩, fun b w hTab h => ?_⟩
  refine (leftShift_walk l dp tr k dl δ M (valL l) (valL l * 2 ^ k) hl.pos hl.top hl.dig hk0 hk hdp0 hdp1 hdl hC hδ hM rfl rfl hlt hge b w hTab h).mono fun e w' ⟨he, l3, h3, h4, h5⟩ => ?_
  rw [hl2] at h3
  subst h3
  rw [hTP] at h4
  exact ⟨he, h4, h5⟩
end Go.Proofs.YtokmamakmaojpaaGreatDoor

/- B3. -/
namespace Go.Proofs.YtokmamakmaojpaaGreatDoor
open Go.RowKit

theorem least_from (p : Nat → Prop) (hp : ∀ n, p n ∨ ¬ p n) (a : Nat) : ∀ c, p (a + c) → ∃ n, a ≤ n ∧ n ≤ a + c ∧ p n ∧ ∀ m, a ≤ m → m < n → ¬ p m
  | 0, h => ⟨a, Nat.le_refl _, Nat.le_refl _, h, fun m h0 h1 => by omega⟩
  | c + 1, h => by
    rcases hp a with h0 | h0
    · exact ⟨a, Nat.le_refl _, by omega, h0, fun m h1 h2 => by omega⟩
    · obtain ⟨n, h1, h2, h3, h4⟩ := least_from p hp (a + 1) c (by rw [show a + 1 + c = a + (c + 1) by omega]; exact h)
      refine ⟨n, by omega, by omega, h3, fun m h5 h6 => ?_⟩
      rcases Nat.eq_or_lt_of_le h5 with e | e
      · subst e; exact h0
      · exact h4 m e h6

/-- The first r places of D, of which n are written; nothing but noughts behind. -/
def topE (D n r : Nat) : Nat := D * 10 ^ r / 10 ^ n
theorem topE_zero {D n : Nat} (h : D < 10 ^ n) : topE D n 0 = 0 := by
  unfold topE
  rw [Nat.pow_zero, Nat.mul_one, Nat.div_eq_of_lt h]
theorem topE_div (D n r : Nat) : topE D n (r + 1) / 10 = topE D n r := by
  unfold topE
  rw [Nat.div_div_eq_div_mul, Nat.pow_succ, ← Nat.mul_assoc, Nat.mul_div_mul_right _ _ (by omega)]
theorem topE_in {D n r : Nat} (h : r ≤ n) : topE D n r = D / 10 ^ (n - r) := by
  unfold topE
  have e : 10 ^ n = 10 ^ (n - r) * 10 ^ r := by rw [← Nat.pow_add]; congr 1; omega
  rw [e, Nat.mul_div_mul_right _ _ (Nat.pow_pos (by omega))]
theorem topE_out {D n r : Nat} (h : n ≤ r) : topE D n r = D * 10 ^ (r - n) := by
  unfold topE
  have e : 10 ^ r = 10 ^ (r - n) * 10 ^ n := by rw [← Nat.pow_add]; congr 1; omega
  rw [e, ← Nat.mul_assoc, Nat.mul_div_cancel _ (Nat.pow_pos (by omega))]
theorem topE_succ_in {D n r : Nat} (h : r < n) : topE D n (r + 1) = topE D n r * 10 + D / 10 ^ (n - 1 - r) % 10 := by
  rw [topE_in (by omega), topE_in (by omega), show n - (r + 1) = n - 1 - r by omega, show n - r = (n - 1 - r) + 1 by omega, Nat.pow_succ, ← Nat.div_div_eq_div_mul]
  omega
theorem topE_succ_out {D n r : Nat} (h : n ≤ r) : topE D n (r + 1) = topE D n r * 10 := by
  rw [topE_out (by omega), topE_out h, show r + 1 - n = (r - n) + 1 by omega, Nat.pow_succ, Nat.mul_assoc]
theorem topE_ge {D n r : Nat} (h : 10 ^ (n - 1) ≤ D) (hn : 0 < n) : 10 ^ r ≤ topE D n (r + 1) := by
  unfold topE
  rw [Nat.le_div_iff_mul_le (Nat.pow_pos (by omega))]
  have h2 := Nat.mul_le_mul_right (10 ^ (r + 1)) h
  rw [← Nat.pow_add] at h2 ⊢
  rw [show r + n = n - 1 + (r + 1) by omega]
  exact h2
theorem topE_mono {D n r : Nat} : topE D n r ≤ topE D n (r + 1) := by
  have := topE_div D n r
  omega
/-- Where the first written digit stands. -/
theorem topE_first {D n k : Nat} (hD : D < 10 ^ n) (hD2 : 10 ^ (n - 1) ≤ D) (hn : 0 < n) (hk : k ≤ 60) : ∃ r, 1 ≤ r ∧ r ≤ 20 ∧ 2 ^ k ≤ topE D n r ∧ topE D n r < 10 * 2 ^ k ∧ ∀ m, m < r → topE D n m < 2 ^ k := by
  have hk2 : 2 ^ k ≤ 10 ^ 19 := Nat.le_trans (Nat.pow_le_pow_right (by omega) hk) (by decide)
  obtain ⟨r, _, h1, h2, h3⟩ := least_from (fun r => 2 ^ k ≤ topE D n r) (fun r => by by_cases h : 2 ^ k ≤ topE D n r <;> simp [h]) 0 20 (Nat.le_trans hk2 (topE_ge hD2 hn))
  have hr : 1 ≤ r := by
    rcases Nat.eq_zero_or_pos r with e | e
    · exfalso
      subst e
      have h2' : 2 ^ k ≤ topE D n 0 := h2
      rw [topE_zero hD] at h2'
      have : 0 < 2 ^ k := Nat.pow_pos (by omega)
      omega
    · exact e
  have h3' : ∀ m, m < r → topE D n m < 2 ^ k := fun m hm => Nat.lt_of_not_le (h3 m (by omega) hm)
  refine ⟨r, hr, by omega, h2, ?_, h3'⟩
  have h4 := h3' (r - 1) (by omega)
  have h5 := topE_div D n (r - 1)
  rw [show r - 1 + 1 = r by omega] at h5
  omega

/-- What is left in hand behind r places, and the digit that it gives. -/
def leftE (D n k r : Nat) : Nat := topE D n r % (10 * 2 ^ k)
def digE (D n k r : Nat) : Nat := topE D n r / 2 ^ k % 10
theorem leftE_lt (D n k r : Nat) : leftE D n k r < 10 * 2 ^ k := Nat.mod_lt _ (Nat.mul_pos (by omega) (Nat.pow_pos (by omega)))
theorem leftE_div (D n k r : Nat) : leftE D n k r / 2 ^ k = digE D n k r := by
  unfold leftE digE
  rw [Nat.mod_mul_left_div_self]
theorem leftE_core {T K c : Nat} (hp : 0 < K) (hc : c < 10) : T % K * 10 + c = (T * 10 + c) % (10 * K) := by
  obtain ⟨q, hq⟩ : ∃ q, T / K = q := ⟨_, rfl⟩
  obtain ⟨s, hs0⟩ : ∃ s, T % K = s := ⟨_, rfl⟩
  have hs := Nat.mod_lt T hp
  have e := Nat.div_add_mod T K
  rw [hq, hs0] at e
  rw [hs0] at hs ⊢
  have e2 : T * 10 + c = (s * 10 + c) + 10 * K * q := by
    rw [← e, Nat.add_mul, Nat.mul_assoc 10, Nat.mul_comm (K * q) 10]
    omega
  rw [e2, Nat.add_mul_mod_self_left, Nat.mod_eq_of_lt]
  omega
theorem leftE_next {D n k r c : Nat} (hc : c < 10) (h : topE D n (r + 1) = topE D n r * 10 + c) : leftE D n k r % 2 ^ k * 10 + c = leftE D n k (r + 1) := by
  unfold leftE
  rw [h, Nat.mod_mul_left_mod]
  exact leftE_core (Nat.pow_pos (by omega)) hc
theorem leftE_end {D n k r : Nat} (h : n + k + 1 ≤ r) : leftE D n k r = 0 := by
  unfold leftE
  rw [topE_out (by omega)]
  have e : 10 ^ (r - n) = 10 * 2 ^ k * (5 ^ k * 10 ^ (r - n - (k + 1))) := by
    rw [← Nat.mul_assoc, Nat.mul_assoc 10, ← Nat.mul_pow, Nat.mul_comm 10, ← Nat.pow_succ, ← Nat.pow_add]
    congr 1
    omega
  rw [e, ← Nat.mul_assoc, Nat.mul_comm D, Nat.mul_assoc]
  exact Nat.mul_mod_right _ _
end Go.Proofs.YtokmamakmaojpaaGreatDoor

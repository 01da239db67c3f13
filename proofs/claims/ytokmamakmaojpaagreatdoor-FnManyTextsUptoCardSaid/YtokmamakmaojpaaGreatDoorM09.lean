/-
  A13. rightShift of internal/strconv's decimal.
  A14. Assign of internal/strconv's decimal.
-/
import Derived.Test.YtokmamakmaojpaaGreatDoorM08
set_option linter.unusedVariables false
set_option linter.unusedSimpArgs false
/- A13. -/
namespace Go.Proofs.YtokmamakmaojpaaGreatDoor
open Go.RowKit

def chE (D n k r : Nat) : UInt8 := UInt8.ofNat (48 + digE D n k r)
theorem digE_lt (D n k r : Nat) : digE D n k r < 10 := Nat.mod_lt _ (by omega)
theorem chE_nat (D n k r : Nat) : ((chE D n k r).toNat : Int) = 48 + (digE D n k r : Int) := by
  have := digE_lt D n k r
  have h : (chE D n k r).toNat = 48 + digE D n k r := by
    unfold chE
    rw [UInt8.toNat_ofNat']
    omega
  rw [h]; omega
theorem chE_dig (D n k r : Nat) : isDig (chE D n k r) := by
  have h := chE_nat D n k r
  have h2 := digE_lt D n k r
  unfold isDig
  omega
def dRF (D n k r0 : Nat) (d0 : Nat → UInt8) (m : Nat) : Nat → UInt8 := fun i => if i < m then chE D n k (r0 + i) else d0 i
def trR (D n k r0 : Nat) (tr : Bool) : Nat → Bool
  | 0 => tr
  | m + 1 => if decide (800 ≤ m) && decide (digE D n k (r0 + m) ≠ 0) then true else trR D n k r0 tr m
theorem dRF_step {D n k r0 : Nat} {d0 : Nat → UInt8} {m : Nat} (i : Nat) : upd (dRF D n k r0 d0 m) m (chE D n k (r0 + m)) i = dRF D n k r0 d0 (m + 1) i := by
  unfold upd dRF
  by_cases h : i = m
  · subst h
    rw [if_pos rfl, if_pos (by omega)]
  · rw [if_neg h]
    by_cases h2 : i < m
    · rw [if_pos h2, if_pos (by omega)]
    · rw [if_neg h2, if_neg (by omega)]
theorem dRF_skip {D n k r0 : Nat} {d0 : Nat → UInt8} {m : Nat} (h : 800 ≤ m) (i : Nat) (hi : i < 800) : dRF D n k r0 d0 m i = dRF D n k r0 d0 (m + 1) i := by
  unfold dRF
  rw [if_pos (by omega), if_pos (by omega)]
theorem dRF_zero {D n k r0 : Nat} {d0 : Nat → UInt8} (i : Nat) : d0 i = dRF D n k r0 d0 0 i := by
  unfold dRF
  rw [if_neg (by omega)]
theorem trR_skip {D n k r0 : Nat} {tr : Bool} {m : Nat} (h : m < 800) : trR D n k r0 tr (m + 1) = trR D n k r0 tr m := by
  rw [trR, if_neg (by simp; omega)]
theorem trR_zero {D n k r0 : Nat} {tr : Bool} {m : Nat} (h : digE D n k (r0 + m) = 0) : trR D n k r0 tr (m + 1) = trR D n k r0 tr m := by
  rw [trR, if_neg (by simp; omega)]
theorem trR_one {D n k r0 : Nat} {tr : Bool} {m : Nat} (h : 800 ≤ m) (h2 : digE D n k (r0 + m) ≠ 0) : trR D n k r0 tr (m + 1) = true := by
  rw [trR, if_pos (by simp; omega)]

theorem digit_cell {D : Nat} {l : List UInt8} {d : Nat → UInt8} {g : Nat} (hdd : ∀ i, i < l.length → l[i]? = some (d i)) (hd : ∀ c ∈ l, isDig c) (hD : valL l = D) (hg : g < l.length) :
    ((d g).toNat : Int) = 48 + ((D / 10 ^ (l.length - 1 - g) % 10 : Nat) : Int) := by
  have := valL_digit l (l.length - 1 - g) hd (by omega)
  rw [show l.length - 1 - (l.length - 1 - g) = g by omega, getD_of (hdd g hg), hD] at this
  omega

theorem and_mask {L K k : Nat} (hK : 2 ^ k = K) (hKl : K ≤ 1152921504606846976) (hL : L < 18446744073709551616) : bits .and .u64 (L : Int) ((K : Int) - 1) = ((L % K : Nat) : Int) := by
  have hp : 0 < K := by rw [← hK]; exact Nat.pow_pos (by omega)
  rw [show (K : Int) - 1 = ((K - 1 : Nat) : Int) by omega, u64_and_nat _ _ hL (by omega), ← hK, Nat.and_two_pow_sub_one_eq_mod]

set_option maxRecDepth 100000 in
set_option maxHeartbeats 4000000 in
theorem rightShift_walk (l : List UInt8) (dp : Int) (tr : Bool) (k D r0 M n K : Nat) (hn : l.length = n) (hl0 : 0 < n) (hl : n ≤ 800) (hd : ∀ c ∈ l, isDig c) (hk0 : 1 ≤ k) (hk : k ≤ 60)
    (hdp0 : -100000 ≤ dp) (hdp1 : dp ≤ 100000) (hD : valL l = D) (hD2 : 10 ^ (n - 1) ≤ D) (hK : 2 ^ k = K) (hr1 : 1 ≤ r0) (hr2 : r0 ≤ 20) (hr3 : K ≤ topE D n r0) (hr4 : topE D n r0 < 10 * K) (hr5 : ∀ m, m < r0 → topE D n m < K)
    (hM0 : n - r0 ≤ M) (hM1 : leftE D n k (r0 + M) = 0) (hM2 : ∀ m, n - r0 ≤ m → m < M → leftE D n k (r0 + m) ≠ 0) (hM3 : M ≤ 2000)
    (b : Nat) (w : World) (h : Dec b l dp tr w) :
    Calls Tryz.prog 118 #[.pointer (some ⟨b, 0, none⟩), .int .u64 k] w fun e w' => e = .returned (.tuple #[]) ∧ ∃ l2 : List UInt8, l2 = (List.range (min M 800)).map (fun i => chE D n k (r0 + i)) ∧ Dec b (trimL l2) (trimP l2 (dp - ((r0 : Int) - 1))) (trR D n k r0 tr M) w' ∧ Kp b w w' := by
  obtain ⟨d, hDD, hdd⟩ := h
  rw [hn] at hDD
  have cnd := hDD.nd
  have HCL := Lib.hid (fun g (hg : g < n) => by
    have := digit_cell hdd hd hD (g := g) (by rw [hn]; exact hg)
    rw [hn] at this
    exact this)
  have hKp : 0 < K := by rw [← hK]; exact Nat.pow_pos (by omega)
  have hKl : K ≤ 1152921504606846976 := by rw [← hK]; exact (Nat.pow_le_pow_right (by omega) hk : 2 ^ k ≤ 2 ^ 60)
  have eK : (2 : Int) ^ k = (K : Int) := by rw [← hK]; simp
  have HT1 : Hid (∀ r, n ≤ r → 0 < topE D n r) := Lib.hid (fun r hr => by
    have := topE_ge (r := r - 1) hD2 hl0
    rw [show r - 1 + 1 = r by omega] at this
    exact Nat.lt_of_lt_of_le (Nat.pow_pos (by omega)) this)
  have HT0 : Hid (topE D n 0 = 0) := Lib.hid (topE_zero (by rw [← hD, ← hn]; exact valL_lt l hd))
  have HLL : Hid (∀ r, leftE D n k r < 10 * K) := Lib.hid (fun r => by rw [← hK]; exact leftE_lt D n k r)
  have HLD : Hid (∀ r, leftE D n k r / K = digE D n k r) := Lib.hid (fun r => by rw [← hK]; exact leftE_div D n k r)
  have HLN : Hid (∀ r c, c < 10 → topE D n (r + 1) = topE D n r * 10 + c → leftE D n k r % K * 10 + c = leftE D n k (r + 1)) := Lib.hid (fun r c h1 h2 => by rw [← hK]; exact leftE_next h1 h2)
  have HL0 : Hid (leftE D n k r0 = topE D n r0) := Lib.hid (by unfold leftE; rw [hK]; exact Nat.mod_eq_of_lt hr4)
  have HMK : Hid (∀ L : Nat, L < 18446744073709551616 → bits .and .u64 (L : Int) ((K : Int) - 1) = ((L % K : Nat) : Int)) := Lib.hid (fun L hL => and_mask hK hKl hL)
  have HF := Lib.hid (fun (w1 : World) (N : Nat) (h1 : DecD b (dRF D n k r0 d M) N (dp - ((r0 : Int) - 1)) (trR D n k r0 tr M) w1) (h2 : N = min M 800) => trim_dec b ((List.range (min M 800)).map (fun i => chE D n k (r0 + i))) (dp - ((r0 : Int) - 1)) (trR D n k r0 tr M) w1
    ⟨dRF D n k r0 d M, by rw [List.length_map, List.length_range, ← h2]; exact h1, fun i hi => by
      rw [List.length_map, List.length_range] at hi
      rw [List.getElem?_map, List.getElem?_range hi, dRF, if_pos (by omega)]
      rfl⟩ (by rw [List.length_map, List.length_range]; omega))
  have HDD := Lib.hid hDD
  have HR3 := Lib.hid hr3
  have HR4 := Lib.hid hr4
  have HR5 := Lib.hid hr5
  have HM1 := Lib.hid hM1
  have HM2 := Lib.hid hM2
  clear hd hdd hDD hr3 hr4 hr5 hM1 hM2 hD hD2 hK
  go_enter Tryz.func118, Tryz.ntmps118
  go_upto_region 2 with (fail)
  iterate 8 (first | (go_says (fail)) | go_values | go_skip | go_guarded | go_step | go_upon | go_back)
  go_cut [4, 6, 7] (fun s4 s6 _ wx => s4 = .int .i64 (r0 : Int) ∧ s6 = .int .u64 ((topE D n r0 : Nat) : Int) ∧ wx = w)
  case first =>
    as_aux_lemma =>
      go_wp2_with (fail)
      go_loopg [4, 6, 7] r0 (fun g v4 v6 _ wr => v4 = .int .i64 ((r0 - g : Nat) : Int) ∧ v6 = .int .u64 ((topE D n (r0 - g) : Nat) : Int) ∧ wr = w ∧ g ≤ r0)
      case atStart =>
        rw [Nat.sub_self]
        refine ⟨rfl, ?_, rfl, Nat.le_refl _⟩
        rw [HT0.out]
        rfl
      case round =>
        obtain ⟨rfl, rfl, rfl, hg⟩ := hrel
        obtain ⟨r, hr⟩ : ∃ r, r0 - gk = r := ⟨_, rfl⟩
        rw [hr]
        obtain ⟨T, hT⟩ : ∃ T, topE D n r = T := ⟨_, rfl⟩
        rw [hT]
        rcases Nat.eq_or_lt_of_le (show r ≤ r0 by omega) with he | he
        · have hTl : T < 10 * 1152921504606846976 := by rw [← hT, he]; have := HR4.out; omega
          obtain ⟨Q, hQ⟩ : ∃ Q, T / K = Q := ⟨_, rfl⟩
          have eQ : (T : Int) / K = Q := by rw [← hQ]; simp
          have hQ0 : ((Q : Int) == 0) = false := by
            have h1 : K ≤ T := by rw [← hT, he]; exact HR3.out
            have h2 : 1 ≤ Q := by rw [← hQ]; exact (Nat.le_div_iff_mul_le hKp).2 (by omega)
            simp; omega
          clear hQ
          go_wp2_with (fail)
          go_meet
          rw [← he, hT]
          exact ⟨rfl, rfl, rfl⟩
        · have hTK : T < K := by rw [← hT]; exact HR5.out r he
          have eQ : (T : Int) / K = 0 := by rw [show (T : Int) / K = ((T / K : Nat) : Int) by simp, Nat.div_eq_of_lt hTK]; rfl
          by_cases hrn : r < n
          · have hb : decide ((n : Int) ≤ (r : Int)) = false := by simp; omega
            have c1 := HDD.out.digit r (by omega)
            obtain ⟨q, hq⟩ : ∃ q, D / 10 ^ (n - 1 - r) % 10 = q := ⟨_, rfl⟩
            have hq9 : q < 10 := by rw [← hq]; exact Nat.mod_lt _ (by omega)
            rw [HCL.out r hrn, hq] at c1
            have e5 := topE_succ_in (D := D) hrn
            rw [hq, hT] at e5
            have E5 := Lib.hid e5
            clear e5 hq
            go_wp2_with (fail)
            go_roundg (gk - 1)
            case measure => omega
            case rel =>
              rw [show r0 - (gk - 1) = r + 1 by omega, E5.out]
              exact ⟨by go_num, by go_num, rfl, by omega⟩
          · have hb : decide ((n : Int) ≤ (r : Int)) = true := by simp; omega
            have hT1 : ((T : Int) == 0) = false := by have := HT1.out r (by omega); simp; omega
            have hTl : T < 1152921504606846976 := by omega
            go_wp2_with (fail)
            go_loopg [4, 6] (r0 - r) (fun g v4 v6 wr' => v4 = .int .i64 ((r0 - g : Nat) : Int) ∧ v6 = .int .u64 ((topE D n (r0 - g) : Nat) : Int) ∧ wr' = wr ∧ g ≤ r0 ∧ n ≤ r0 - g)
            case atStart =>
              rw [show r0 - (r0 - r) = r by omega, hT]
              exact ⟨rfl, rfl, rfl, by omega, by omega⟩
            case round =>
              clear hTl hT1 hb eQ hTK
              obtain ⟨rfl, rfl, rfl, hg2, hgn⟩ := hrel
              obtain ⟨r', hr'⟩ : ∃ r', r0 - gk = r' := ⟨_, rfl⟩
              rw [hr'] at hgn ⊢
              obtain ⟨T', hT'⟩ : ∃ T', topE D n r' = T' := ⟨_, rfl⟩
              rw [hT']
              rcases Nat.eq_or_lt_of_le (show r' ≤ r0 by omega) with he2 | he2
              · have hTl : T' < 10 * 1152921504606846976 := by rw [← hT', he2]; have := HR4.out; omega
                obtain ⟨Q, hQ⟩ : ∃ Q, T' / K = Q := ⟨_, rfl⟩
                have eQ : (T' : Int) / K = Q := by rw [← hQ]; simp
                have hQ0 : ((Q : Int) == 0) = false := by
                  have h1 : K ≤ T' := by rw [← hT', he2]; exact HR3.out
                  have h2 : 1 ≤ Q := by rw [← hQ]; exact (Nat.le_div_iff_mul_le hKp).2 (by omega)
                  simp; omega
                clear hQ
                go_wp2_with (fail)
                go_meet
                rw [← he2, hT']
                exact ⟨rfl, rfl, rfl⟩
              · have hTK : T' < K := by rw [← hT']; exact HR5.out r' he2
                have eQ : (T' : Int) / K = 0 := by rw [show (T' : Int) / K = ((T' / K : Nat) : Int) by simp, Nat.div_eq_of_lt hTK]; rfl
                have E5 := Lib.hid (topE_succ_out (D := D) hgn)
                go_wp2_with (fail)
                go_roundg (gk - 1)
                case measure => omega
                case rel =>
                  rw [show r0 - (gk - 1) = r' + 1 by omega, E5.out, hT']
                  exact ⟨by go_num, by go_num, rfl, by omega, by omega⟩
  case rest =>
    obtain ⟨rfl, rfl, rfl⟩ := hcut
    have cdp := HDD.out.dp
    have f801 := HDD.out.frozen 801
    have h0 := HDD.out.setDp (dp - ((r0 : Int) - 1))
    have H0 := Lib.hid h0
    clear h0
    obtain ⟨T, hT⟩ : ∃ T, topE D n r0 = T := ⟨_, rfl⟩
    have hTl : T < 10 * 1152921504606846976 := by rw [← hT]; have := HR4.out; omega
    rw [hT]
    go_wp2_with (fail)
    go_loopg [4, 5, 6, 9, 10] (n - r0) (fun g v4 v5 v6 _ _ wr => v4 = .int .i64 ((r0 : Int) + (n - r0 - g : Nat)) ∧ v5 = .int .i64 ((n - r0 - g : Nat) : Int) ∧ v6 = .int .u64 ((leftE D n k (r0 + (n - r0 - g)) : Nat) : Int) ∧
      DecD b (dRF D n k r0 d (n - r0 - g)) n (dp - ((r0 : Int) - 1)) (trR D n k r0 tr (n - r0 - g)) wr ∧ Kp b wc wr ∧ g ≤ n - r0)
    case atStart =>
      rw [Nat.sub_self, Nat.add_zero, HL0.out, hT]
      exact ⟨by go_num, rfl, rfl, H0.out.congr fun i _ => dRF_zero i, (Kp.refl b wc).setCell _ _, Nat.le_refl _⟩
    case round =>
      clear cdp f801 H0 cnd
      obtain ⟨rfl, rfl, rfl, hR, hKk, hg⟩ := hrel
      obtain ⟨m, hm⟩ : ∃ m, n - r0 - gk = m := ⟨_, rfl⟩
      rw [hm] at hR ⊢
      obtain ⟨L, hL⟩ : ∃ L, leftE D n k (r0 + m) = L := ⟨_, rfl⟩
      have hLl : L < 10 * 1152921504606846976 := by rw [← hL]; have := HLL.out (r0 + m); omega
      rw [hL]
      cases gk with
      | zero =>
        have hb : decide ((r0 : Int) + m < n) = false := by simp; omega
        have cnd := hR.nd
        go_wp2_with (fail)
        go_loopg [5, 6, 11] (M - m) (fun g v5 v6 _ wr => v5 = .int .i64 ((min (M - g) 800 : Nat) : Int) ∧ v6 = .int .u64 ((leftE D n k (r0 + (M - g)) : Nat) : Int) ∧
          DecD b (dRF D n k r0 d (M - g)) n (dp - ((r0 : Int) - 1)) (trR D n k r0 tr (M - g)) wr ∧ Kp b wc wr ∧ g ≤ M ∧ n - r0 ≤ M - g)
        case atStart =>
          rw [show M - (M - m) = m by omega, show min m 800 = m by omega, hL]
          exact ⟨rfl, rfl, hR, hKk, by omega, by omega⟩
        case round =>
          clear hR hKk hL hLl hb cnd hg
          obtain ⟨rfl, rfl, hR, hKk, hg, hgn⟩ := hrel
          obtain ⟨m', hm'⟩ : ∃ m', M - gk = m' := ⟨_, rfl⟩
          rw [hm'] at hR hgn ⊢
          obtain ⟨L', hL'⟩ : ∃ L', leftE D n k (r0 + m') = L' := ⟨_, rfl⟩
          have hLl : L' < 10 * 1152921504606846976 := by rw [← hL']; have := HLL.out (r0 + m'); omega
          rw [hL']
          cases gk with
          | zero =>
            have hL0 : L' = 0 := by rw [← hL', ← hm']; exact HM1.out
            subst hL0
            obtain rfl : m' = M := by omega
            have cn := hR.nd
            have f0 := hR.frozen 800
            go_wp2_with (go_at_call 116; refine (HF.out _ _ (hR.setNd (min m' 800)) rfl).mono ?_; rintro e w' ⟨rfl, h3, h4⟩; have H3 := Lib.hid h3; have H4 := Lib.hid h4; clear h3 h4)
            go_end0
            exact ⟨rfl, _, rfl, H3.out, (hKk.setCell _ _).trans H4.out⟩
          | succ g =>
            have hL0 : L' ≠ 0 := by rw [← hL']; exact HM2.out m' hgn (by omega)
            have hLp : decide (0 < L') = true := by simp; omega
            obtain ⟨Q, hQ⟩ : ∃ Q, L' / K = Q := ⟨_, rfl⟩
            have eQ : (L' : Int) / K = Q := by rw [← hQ]; simp
            have hQ2 : digE D n k (r0 + m') = Q := by rw [← HLD.out, hL', hQ]
            have hQ9 : Q < 10 := by rw [← hQ2]; exact digE_lt _ _ _ _
            obtain ⟨S, hS⟩ : ∃ S, L' % K = S := ⟨_, rfl⟩
            have eS := HMK.out L' (by omega)
            rw [hS] at eS
            have hSl : S < K := by rw [← hS]; exact Nat.mod_lt _ hKp
            have e5 := HLN.out (r0 + m') 0 (by omega) (topE_succ_out (by omega))
            rw [hL', hS, Nat.add_zero] at e5
            have E5 := Lib.hid e5
            have HQ2 := Lib.hid hQ2
            clear hQ hS e5 hQ2 hL0
            by_cases h8 : m' < 800
            · have hmin : min m' 800 = m' := by omega
              have hb8 : decide ((m' : Int) < 800) = true := by simp; omega
              have c2 := hR.digit m' h8
              obtain ⟨z, hz⟩ : ∃ z : Int, ((dRF D n k r0 d m' m').toNat : Int) = z := ⟨_, rfl⟩
              rw [hz] at c2
              have f0 := hR.frozen m'
              rw [hmin]
              clear hz hmin
              go_wp2_with (fail)
              go_roundg g
              case measure => omega
              case rel =>
                have hm1 : M - g = m' + 1 := by omega
                rw [hm1, ← Nat.add_assoc, ← E5.out, show min (m' + 1) 800 = m' + 1 by omega]
                refine ⟨by go_num, by go_num, ?_, hKk.setCell _ _, by omega, by omega⟩
                have hx : (Q : Int) + 48 = ((chE D n k (r0 + m')).toNat : Int) := by rw [chE_nat, HQ2.out]; omega
                rw [hx, trR_skip (by omega)]
                exact (hR.setD m' (by omega) _).congr fun i _ => dRF_step i
            · have hmin : min m' 800 = 800 := by omega
              have c2 := hR.tr
              have f0 := hR.frozen 803
              rw [hmin]
              clear hmin
              by_cases hq0 : Q = 0
              · have hb2 : decide (0 < Q) = false := by simp; omega
                go_wp2_with (fail)
                go_roundg g
                case measure => omega
                case rel =>
                  have hm1 : M - g = m' + 1 := by omega
                  rw [hm1, ← Nat.add_assoc, ← E5.out, show min (m' + 1) 800 = 800 by omega]
                  refine ⟨by go_num, by go_num, ?_, hKk, by omega, by omega⟩
                  rw [trR_zero (by rw [HQ2.out]; exact hq0)]
                  exact hR.congr fun i hi => dRF_skip (by omega) i hi
              · have hb2 : decide (0 < Q) = true := by simp; omega
                go_wp2_with (fail)
                go_roundg g
                case measure => omega
                case rel =>
                  have hm1 : M - g = m' + 1 := by omega
                  rw [hm1, ← Nat.add_assoc, ← E5.out, show min (m' + 1) 800 = 800 by omega]
                  refine ⟨by go_num, by go_num, ?_, hKk.setCell _ _, by omega, by omega⟩
                  rw [trR_one (by omega) (by rw [HQ2.out]; exact hq0)]
                  exact (hR.setTr true).congr fun i hi => dRF_skip (by omega) i hi
      | succ g =>
        have hb : decide ((r0 : Int) + m < n) = true := by simp; omega
        have cnd := hR.nd
        have c1 := hR.digit (r0 + m) (by omega)
        have e1 : dRF D n k r0 d m (r0 + m) = d (r0 + m) := by unfold dRF; rw [if_neg (by omega)]
        obtain ⟨q, hq⟩ : ∃ q, D / 10 ^ (n - 1 - (r0 + m)) % 10 = q := ⟨_, rfl⟩
        have hq9 : q < 10 := by rw [← hq]; exact Nat.mod_lt _ (by omega)
        rw [e1, HCL.out (r0 + m) (by omega), hq] at c1
        have c2 := hR.digit m (by omega)
        obtain ⟨z, hz⟩ : ∃ z : Int, ((dRF D n k r0 d m m).toNat : Int) = z := ⟨_, rfl⟩
        rw [hz] at c2
        have f0 := hR.frozen m
        obtain ⟨Q, hQ⟩ : ∃ Q, L / K = Q := ⟨_, rfl⟩
        have eQ : (L : Int) / K = Q := by rw [← hQ]; simp
        have hQ2 : digE D n k (r0 + m) = Q := by rw [← HLD.out, hL, hQ]
        have hQ9 : Q < 10 := by rw [← hQ2]; exact digE_lt _ _ _ _
        obtain ⟨S, hS⟩ : ∃ S, L % K = S := ⟨_, rfl⟩
        have eS := HMK.out L (by omega)
        rw [hS] at eS
        have hSl : S < K := by rw [← hS]; exact Nat.mod_lt _ hKp
        have e5 := HLN.out (r0 + m) q hq9 (by
          have := topE_succ_in (D := D) (show r0 + m < n by omega)
          rw [hq] at this
          exact this)
        rw [hL, hS] at e5
        have E5 := Lib.hid e5
        have HQ2 := Lib.hid hQ2
        clear e1 hz hq hQ hS e5 hQ2
        go_wp2_with (fail)
        go_roundg g
        case measure => omega
        case rel =>
          have hm1 : n - r0 - g = m + 1 := by omega
          rw [hm1, ← Nat.add_assoc, ← E5.out]
          refine ⟨by go_num, by go_num, by go_num, ?_, hKk.setCell _ _, by omega⟩
          have hx : (Q : Int) + 48 = ((chE D n k (r0 + m)).toNat : Int) := by rw [chE_nat, HQ2.out]; omega
          rw [hx, trR_skip (by omega)]
          exact (hR.setD m (by omega) _).congr fun i _ => dRF_step i

/-- rightShift: digits that are none but what l and k tell. -/
theorem rightShift_ex (l : List UInt8) (dp : Int) (tr : Bool) (k : Nat) (hl : Good l) (hk0 : 1 ≤ k) (hk : k ≤ 60) (hdp0 : -100000 ≤ dp) (hdp1 : dp ≤ 100000) :
    ∃ l' dp' tr', (Good l' ∧ dp - 19 ≤ dp' ∧ dp' ≤ dp) ∧ ∀ b w, Dec b l dp tr w →
      Calls Tryz.prog 118 #[.pointer (some ⟨b, 0, none⟩), .int .u64 k] w fun e w' => e = .returned (.tuple #[]) ∧ Dec b l' dp' tr' w' ∧ Kp b w w' := by
  obtain ⟨n, hn⟩ : ∃ n, l.length = n := ⟨_, rfl⟩
  obtain ⟨D, hD⟩ : ∃ D, valL l = D := ⟨_, rfl⟩
  have hDlt := valL_lt l hl.dig
  have hDge := valL_head hl.dig hl.head hl.pos
  have hn0 := hl.pos
  have hn1 := hl.top
  rw [hD, hn] at hDlt hDge
  rw [hn] at hn0 hn1
  obtain ⟨r0, h1, h2, h3, h4, h5⟩ := topE_first hDlt hDge hn0 hk
  obtain ⟨M, m0, m1, m2, m3⟩ := least_from (fun m => leftE D n k (r0 + m) = 0) (fun m => by by_cases h : leftE D n k (r0 + m) = 0 <;> simp [h]) (n - r0) (k + 1) (leftE_end (by omega))
  have hp : 0 < 2 ^ k := Nat.pow_pos (by omega)
  have hM1 : 0 < M := by
    rcases Nat.eq_zero_or_pos M with e | e
    · exfalso
      subst e
      have h6 : leftE D n k r0 = 0 := m2
      unfold leftE at h6
      rw [Nat.mod_eq_of_lt h4] at h6
      omega
    · exact e
  obtain ⟨l2, hl2⟩ : ∃ l2, (List.range (min M 800)).map (fun i => chE D n k (r0 + i)) = l2 := ⟨_, rfl⟩
  have hlen : l2.length = min M 800 := by rw [← hl2, List.length_map, List.length_range]
  have hdig : ∀ c ∈ l2, isDig c := fun c hc => by
    rw [← hl2, List.mem_map] at hc
    obtain ⟨i, _, rfl⟩ := hc
    exact chE_dig _ _ _ _
  have hhead : l2[0]? ≠ some 48 := by
    rw [← hl2, List.getElem?_map, List.getElem?_range (by omega)]
    intro e
    have e1 : chE D n k r0 = 48 := Option.some.inj e
    have e2 := chE_nat D n k r0
    rw [e1] at e2
    have e3 : digE D n k r0 = 0 := by
      have : ((48 : UInt8).toNat : Int) = 48 := rfl
      omega
    unfold digE at e3
    have h6 : 1 ≤ topE D n r0 / 2 ^ k := (Nat.le_div_iff_mul_le hp).2 (by omega)
    have h7 : topE D n r0 / 2 ^ k < 10 := by rw [Nat.div_lt_iff_lt_mul hp]; exact h4
    omega
  have hT := trimL_head l2 (by omega) hhead
  have hTP : trimP l2 (dp - ((r0 : Int) - 1)) = dp - ((r0 : Int) - 1) := by
    unfold trimP
    rw [if_neg (by have := trimN_head l2 (by omega) hhead; omega)]
  refine ⟨trimL l2, dp - ((r0 : Int) - 1), trR D n k r0 tr M, ⟨⟨hT.1, by rw [trimL_length]; have := trimN_le l2; omega, fun c hc => hdig c (trimN_zero_mem l2 c hc), hT.2⟩, by omega, by omega⟩, fun b w h => ?_⟩
  refine (rightShift_walk l dp tr k D r0 M n (2 ^ k) hn hn0 hn1 hl.dig hk0 hk hdp0 hdp1 hD hDge rfl h1 h2 h3 h4 h5 m0 m2 m3 (by omega) b w h).mono fun e w' ⟨he, l3, h6, h7, h8⟩ => ?_
  rw [hl2] at h6
  subst h6
  rw [hTP] at h7
  exact ⟨he, h7, h8⟩
end Go.Proofs.YtokmamakmaojpaaGreatDoor

/- A14. -/
namespace Go.Proofs.YtokmamakmaojpaaGreatDoor
open Go.RowKit

/-- Block b is a row of N bytes. -/
structure Buf (b N : Nat) (T : TypeId) (f : Nat → Nat) (w : World) : Prop where
  at_ : ∃ cs, w.heap[b]? = some (.cells cs T (0, 0)) ∧ cs.size = N ∧ ∀ i, i < N → cs[i]? = some (.int .u8 ((f i : Nat) : Int))
theorem Buf.cell {b N : Nat} {T : TypeId} {f : Nat → Nat} {w : World} (h : Buf b N T f w) (i : Nat) (hi : i < N) : w.cell? ⟨b, i, none⟩ = some (.int .u8 ((f i : Nat) : Int)) := by
  obtain ⟨cs, h1, h2, h3⟩ := h.at_
  rw [Lib.cell_of_heap h1]
  exact h3 i hi
theorem Buf.frozen {b N : Nat} {T : TypeId} {f : Nat → Nat} {w : World} (h : Buf b N T f w) (o : Nat) : w.frozen? ⟨b, o, none⟩ = false := by
  obtain ⟨cs, h1, _⟩ := h.at_
  exact Lib.frozen_of_heap h1 o
theorem Buf.heap {b N : Nat} {T : TypeId} {f : Nat → Nat} {w w' : World} (h : Buf b N T f w) (e : w'.heap[b]? = w.heap[b]?) : Buf b N T f w' := by
  obtain ⟨cs, h1, h2⟩ := h.at_
  exact ⟨cs, e.trans h1, h2⟩
theorem Buf.set {b N : Nat} {T : TypeId} {f : Nat → Nat} {w : World} (h : Buf b N T f w) (i v : Nat) (f' : Nat → Nat) (hv : f' i = v) (hf : ∀ j, j < N → j ≠ i → f' j = f j) : Buf b N T f' (w.setCell ⟨b, i, none⟩ (.int .u8 (v : Int))) := by
  obtain ⟨cs, h1, h2, h3⟩ := h.at_
  refine ⟨_, heap_setCell_cells h1 _, by simpa using h2, fun j hj => ?_⟩
  rw [Array.getElem?_setIfInBounds]
  by_cases e : i = j
  · subst e
    rw [if_pos rfl, if_pos (by omega), hv]
  · rw [if_neg e, h3 j hj, hf j hj (fun x => e x.symm)]
theorem Buf.new {w : World} {cs : Array Value} {T : TypeId} {N : Nat} (h : cs = Array.replicate N (.int .u8 0)) : Buf w.heap.size N T (fun _ => 0) (w.alloc (.cells cs T)) := by
  refine ⟨cs, by show (w.heap.push _)[w.heap.size]? = _; simp, by rw [h]; simp, fun i hi => ?_⟩
  rw [h, Array.getElem?_replicate, if_pos hi]
  rfl
theorem heap_set_ne {w : World} {a b o : Nat} (h : a ≠ b) (v : Value) : (w.setCell ⟨b, o, none⟩ v).heap[a]? = w.heap[a]? := Below.heap_setCell _ _ _ _ h

theorem Kp.other {b nb : Nat} {w w' : World} (h : Kp b w w') (hn : w.heap.size ≤ nb) (o : Nat) (v : Value) : Kp b w (w'.setCell ⟨nb, o, none⟩ v) :=
  ⟨h.os, h.tape, h.output, by have := h.size; simpa [World.setCell] using this, fun k hk hkb => (heap_set_ne (by omega) _).trans (h.block k hk hkb)⟩

set_option maxRecDepth 100000 in
set_option maxHeartbeats 1000000 in
theorem assign_dec (u : Nat) (hu : 0 < u) (hu2 : u < 18446744073709551616) (b : Nat) (d : Nat → UInt8) (nd0 : Nat) (dp0 : Int) (tr : Bool) (w : World) (h : DecD b d nd0 dp0 tr w) (hb : b < w.heap.size) :
    Calls Tryz.prog 97 #[.pointer (some ⟨b, 0, none⟩), .int .u64 u] w fun e w' => e = .returned (.tuple #[]) ∧ Dec b (trimL (digs u)) (trimP (digs u) ((digs u).length : Int)) tr w' ∧ Kp b w w' := by
  have hne : u ≠ 0 := by omega
  have hL20 : (digs u).length ≤ 20 := digs_length_le u 20 (by omega)
  have HT := Lib.hid (fun (w1 : World) (n : Nat) (dp1 : Int) (h1 : DecD b (fun i => if i < (digs u).length then (digs u).getD i 0 else d i) n dp1 tr w1) (h2 : n = (digs u).length) (h3 : dp1 = ((digs u).length : Int)) => trim_dec b (digs u) ((digs u).length : Int) tr w1
    ⟨_, by subst h3; subst h2; exact h1, fun i hi => by rw [if_pos hi, List.getD_eq_getElem?_getD, List.getElem?_eq_getElem hi]; rfl⟩ (by omega))
  have HA := Lib.hid (fun t ht => digs_at u t ht)
  have hlen := digs_length_pos hne
  have hlt := lt_pow_digs u
  have hge : 10 ^ ((digs u).length - 1) ≤ u := by
    rcases Nat.lt_or_ge u (10 ^ ((digs u).length - 1)) with h1 | h1
    · have h2 := digs_length_le u _ h1
      have h3 : 0 < (digs u).length := by rcases Nat.eq_zero_or_pos (digs u).length with e | e; · rw [e] at hlt; omega
                                          · exact e
      omega
    · exact h1
  obtain ⟨L, hL⟩ : ∃ L, (digs u).length = L := ⟨_, rfl⟩
  rw [hL] at hL20 HT HA hlt hge
  have hL0 : 0 < L := by rcases Nat.eq_zero_or_pos L with e | e; · rw [e] at hlt; omega
                         · exact e
  have HLT := Lib.hid hlt
  have HGE := Lib.hid hge
  have H := Lib.hid h
  have HLE := Lib.hid hL
  rw [hL]
  clear hlen hL hlt hge h
  obtain ⟨nb, hnb⟩ : ∃ nb, w.heap.size = nb := ⟨_, rfl⟩
  go_enter Tryz.func97, Tryz.ntmps97
  go_wp2_with (fail)
  go_loopg [1, 5, 6] L (fun g v1 v5 _ wr => v1 = .int .u64 ((u / 10 ^ (L - g) : Nat) : Int) ∧ v5 = .int .i64 ((L - g : Nat) : Int) ∧ Buf nb 24 176 (fun i => if i < L - g then 48 + u / 10 ^ i % 10 else 0) wr ∧ DecD b d nd0 dp0 tr wr ∧ Kp b w wr ∧ wr.heap.size = nb + 1 ∧ g ≤ L)
  case atStart =>
    rw [Nat.sub_self, Nat.pow_zero, Nat.div_one]
    refine ⟨rfl, rfl, ?_, H.out.heap (Below.heap_alloc _ _ _ (by omega)), (Kp.refl b w).alloc _, by simp [hnb], Nat.le_refl _⟩
    rw [← hnb]
    exact Buf.new (by rfl)
  case round =>
    obtain ⟨rfl, rfl, hB, hD, hK, hsz, hg⟩ := hrel
    obtain ⟨m, hm⟩ : ∃ m, L - gk = m := ⟨_, rfl⟩
    rw [hm] at hB ⊢
    obtain ⟨V, hV⟩ : ∃ V, u / 10 ^ m = V := ⟨_, rfl⟩
    have hVl : V < 18446744073709551616 := by rw [← hV]; exact Nat.lt_of_le_of_lt (Nat.div_le_self _ _) hu2
    rw [hV]
    cases gk with
    | zero =>
      obtain rfl : m = L := by omega
      have hV0 : V = 0 := by rw [← hV]; exact Nat.div_eq_of_lt HLT.out
      subst hV0
      have f0 := hD.frozen 800
      have cn := hD.nd
      have h0 := hD.setNd 0
      have H0 := Lib.hid h0
      have HB := Lib.hid (hB.heap (heap_set_ne (w := wr) (by omega : nb ≠ b) (.int .i64 0) : (wr.setCell ⟨b, 800, none⟩ (.int .i64 0)).heap[nb]? = wr.heap[nb]?))
      have HK := Lib.hid (hK.setCell 800 (.int .i64 0))
      clear h0 hV hVl hB hK hD
      go_wp2_with (fail)
      go_loopg [5] m (fun g v5 wr2 => v5 = .int .i64 ((g : Int) - 1) ∧ Buf nb 24 176 (fun i => if i < m then 48 + u / 10 ^ i % 10 else 0) wr2 ∧ DecD b (fun i => if i < m - g then (digs u).getD i 0 else d i) (m - g) dp0 tr wr2 ∧ Kp b w wr2 ∧ g ≤ m)
      case atStart =>
        rw [Nat.sub_self]
        exact ⟨rfl, HB.out, H0.out.congr fun i _ => by rw [if_neg (by omega)], HK.out, Nat.le_refl _⟩
      case round =>
        clear f0 cn H0 HB HK
        obtain ⟨rfl, hB, hD, hK, hg2⟩ := hrel
        cases gk with
        | zero =>
          rw [Nat.sub_zero] at hD
          have cn := hD.nd
          have cp := hD.dp
          have f1 := hD.frozen 801
          have em : ((0 : Nat) : Int) - 1 = -1 := by omega
          rw [em]
          clear em
          go_wp2_with (go_at_call 116; refine (HT.out _ _ _ (hD.setDp (m : Int)) rfl rfl).mono ?_; rintro e w' ⟨rfl, h3, h4⟩; have H3 := Lib.hid h3; have H4 := Lib.hid h4; clear h3 h4)
          go_end0
          exact ⟨rfl, H3.out, (hK.setCell _ _).trans H4.out⟩
        | succ g =>
          obtain ⟨j, hj⟩ : ∃ j, m - (g + 1) = j := ⟨_, rfl⟩
          rw [hj] at hD
          have em : ((g + 1 : Nat) : Int) - 1 = (g : Int) := by omega
          rw [em]
          clear em
          have cn := hD.nd
          have f0 := hD.frozen j
          have f1 := hD.frozen 800
          have c0 := hB.cell g (by omega)
          rw [if_pos (by omega)] at c0
          have c1 := hD.digit j (by omega)
          obtain ⟨z, hz⟩ : ∃ z : Int, ((48 + u / 10 ^ g % 10 : Nat) : Int) = z := ⟨_, rfl⟩
          rw [hz] at c0
          obtain ⟨y, hy⟩ : ∃ y : Int, (((if j < j then (digs u).getD j 0 else d j)).toNat : Int) = y := ⟨_, rfl⟩
          rw [hy] at c1
          have HZ := Lib.hid hz
          clear hz hy
          go_wp2_with (fail)
          go_region
          go_wp2_with (fail)
          go_roundg g
          case measure => omega
          case rel =>
            rw [show m - g = j + 1 by omega]
            have hz : z = (((digs u).getD j 0).toNat : Int) := by
              rw [← HZ.out, List.getD_eq_getElem?_getD, HA.out j (by omega), show m - 1 - j = g by omega]
              show _ = ((UInt8.ofNat (48 + u / 10 ^ g % 10)).toNat : Int)
              rw [UInt8.toNat_ofNat']
              omega
            rw [hz]
            refine ⟨rfl, (hB.heap ((heap_set_ne (by omega) _).trans (heap_set_ne (by omega) _))).heap rfl, (((hD.setD j (by omega) _).setNd (j + 1)).congr fun i _ => ?_).drew, ((hK.setCell _ _).setCell _ _).drew, by omega⟩
            unfold upd
            by_cases h1 : i = j
            · subst h1; rw [if_pos rfl, if_pos (by omega)]
            · rw [if_neg h1]
              show (if i < j then (digs u).getD i 0 else d i) = _
              by_cases h2 : i < j
              · rw [if_pos h2, if_pos (by omega)]
              · rw [if_neg h2, if_neg (by omega)]
    | succ g =>
      have hV1 : 0 < V := by
        rw [← hV]
        refine (Nat.le_div_iff_mul_le (Nat.pow_pos (by omega))).2 ?_
        have h1 := HGE.out
        have h2 : 10 ^ m ≤ 10 ^ (L - 1) := Nat.pow_le_pow_right (by omega) (by omega)
        omega
      have hVp : decide (0 < V) = true := by simp; omega
      obtain ⟨Q, hQ⟩ : ∃ Q, V / 10 = Q := ⟨_, rfl⟩
      obtain ⟨R, hR⟩ : ∃ R, V % 10 = R := ⟨_, rfl⟩
      have e3 : (V : Int).tdiv 10 = Q := by rw [← hQ]; rfl
      have e4 : (V : Int) - 10 * Q = R := by omega
      have hQl : Q < 1844674407370955162 := by omega
      have hRl : R < 10 := by omega
      have s1 : u / 10 ^ (m + 1) = Q := by rw [Nat.pow_succ, ← Nat.div_div_eq_div_mul, hV, hQ]
      have s2 : u / 10 ^ m % 10 = R := by rw [hV, hR]
      have S1 := Lib.hid s1
      have S2 := Lib.hid s2
      have f0 := hB.frozen m
      have c0 := hB.cell m (by omega)
      obtain ⟨z, hz⟩ : ∃ z : Int, (((fun i => if i < m then 48 + u / 10 ^ i % 10 else 0) m : Nat) : Int) = z := ⟨_, rfl⟩
      rw [hz] at c0
      clear s1 s2 hQ hR hV hz
      go_wp2_with (fail)
      go_roundg g
      case measure => omega
      case rel =>
        rw [show L - g = m + 1 by omega, S1.out]
        have hx : (R : Int) + 48 = ((48 + R : Nat) : Int) := by omega
        rw [hx]
        refine ⟨by go_num, by go_num, ?_, ?_, ?_, ?_, by omega⟩
        · exact hB.set m (48 + R) _ (by simp [S2.out]) (fun j _ hj => by
            by_cases h1 : j < m
            · rw [if_pos (by omega), if_pos h1]
            · rw [if_neg (by omega), if_neg h1])
        · exact hD.heap (heap_set_ne (by omega) _)
        · exact hK.other (by omega) _ _
        · simp [World.setCell, hsz]
end Go.Proofs.YtokmamakmaojpaaGreatDoor

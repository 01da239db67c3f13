/-
  A11. prefixIsLessThan and leftShift of internal/strconv's decimal.
  B2. Plain arithmetic of leftShift: the value of digits, the table of its cutoffs, how many digits a product by a power of two has.
  A23. zzTrimRight with one letter.
  A25. Small functions over kinds and layouts.
-/
import Derived.Test.YtokmamakmaojpaaGreatDoorM04
import Derived.Test.YtokmamakmaojpaaGreatDoorM01
set_option linter.unusedVariables false
set_option linter.unusedSimpArgs false
/- A11. -/
namespace Go.Proofs.YtokmamakmaojpaaGreatDoor
open Go.RowKit

theorem drewN2 (w : World) (a b : Nat) : (w.drewN a).drewN b = w.drewN (a + b) := by simp only [World.drewN, Nat.add_assoc]

/-- The order by digits: l stands before s, where a missing place stands before all. -/
def pless : List UInt8 → List UInt8 → Bool
  | _, [] => false
  | [], _ :: _ => true
  | a :: l, b :: s => if a = b then pless l s else decide (a.toNat < b.toNat)
theorem pless_drop (l s : List UInt8) (i : Nat) (h0 : i < l.length) (h1 : i < s.length) : pless (l.drop i) (s.drop i) = if l.getD i 0 = s.getD i 0 then pless (l.drop (i + 1)) (s.drop (i + 1)) else decide ((l.getD i 0).toNat < (s.getD i 0).toNat) := by
  rw [List.drop_eq_getElem_cons h0, List.drop_eq_getElem_cons h1, pless, List.getD_eq_getElem?_getD, List.getElem?_eq_getElem h0, List.getD_eq_getElem?_getD, List.getElem?_eq_getElem h1]
  rfl

theorem pless_any (b : Nat) (l s : List UInt8) (cap : Nat) (w : World) (hl : l.length ≤ cap) (hs : s.length ≤ 100) (hcap : cap ≤ 800)
    (hcell : ∀ i, i < l.length → w.cell? ⟨b, i, none⟩ = some (.int .u8 ((l.getD i 0).toNat : Int))) :
    Calls Tryz.prog 127 #[.slice (some ⟨b, 0, none⟩) l.length cap, .string ⟨s.toArray⟩] w (Still (.bool (pless l s)) w) := by
  have HC := Lib.hid hcell
  clear hcell
  obtain ⟨L, hL⟩ : ∃ L, l.length = L := ⟨_, rfl⟩
  obtain ⟨S, hS⟩ : ∃ S, s.toArray.size = S := ⟨_, rfl⟩
  have hS2 : s.length = S := hS
  have hS' : (⟨s.toArray⟩ : ByteArray).size = S := hS
  rw [hL] at hl HC ⊢
  have HL := Lib.hid hL
  have HS := Lib.hid hS2
  rw [hS2] at hs
  clear hL hS2
  go_enter Tryz.func127, Tryz.ntmps127
  go_wp2_with (fail)
  go_loopg [5] S (fun g v5 wr => v5 = .int .i64 ((S - g : Nat) : Int) ∧ (∃ n, wr = w.drewN n) ∧ g ≤ S ∧ S - g ≤ L ∧ Hid (pless (l.drop (S - g)) (s.drop (S - g)) = pless l s))
  case atStart => exact ⟨by simp, ⟨0, rfl⟩, Nat.le_refl _, by omega, by rw [Nat.sub_self]; exact Lib.hid (Eq.refl _)⟩
  case round =>
    obtain ⟨rfl, ⟨n, rfl⟩, hg, hgL, hp⟩ := hrel
    obtain ⟨i, hi⟩ : ∃ i, S - gk = i := ⟨_, rfl⟩
    rw [hi] at hp hgL ⊢
    by_cases h0 : i < S
    · by_cases h1 : i < L
      · have c0 := HC.out i h1
        obtain ⟨c, hc⟩ : ∃ c : Int, ((l.getD i 0).toNat : Int) = c := ⟨_, rfl⟩
        rw [hc] at c0
        obtain ⟨t, ht⟩ : ∃ t : Int, ((s.getD i 0).toNat : Int) = t := ⟨_, rfl⟩
        rw [pless_drop l s i (by rw [HL.out]; exact h1) (by rw [HS.out]; exact h0)] at hp
        have HP := Lib.hid hp
        have HTT := Lib.hid ht
        have HCC := Lib.hid hc
        have hi2 : i < (⟨s.toArray⟩ : ByteArray).size := by rw [hS']; exact h0
        have hti : (((⟨s.toArray⟩ : ByteArray)[i]'hi2).toNat : Int) = t := by
          rw [← ht, List.getD_eq_getElem?_getD, List.getElem?_eq_getElem (by rw [HS.out]; exact h0)]
          rfl
        clear hp ht hc
        by_cases hct : c = t
        · have HCT := Lib.hid hct
          subst hct
          have hb : (c == c) = true := by simp
          go_wp2_with (fail)
          go_quiet (fail)
          go_wp2_with (fail)
          go_roundg (gk - 1)
          case measure => omega
          case rel =>
            have e : S - (gk - 1) = i + 1 := by omega
            rw [e]
            refine ⟨by go_num, ⟨_, rfl⟩, by omega, by omega, ?_⟩
            have hp := HP.out.out
            rw [if_pos (UInt8.toNat_inj.1 (by have := HCC.out; have := HTT.out; omega))] at hp
            exact Lib.hid hp
        · have hb : (c == t) = false := by simpa using hct
          have HCT := Lib.hid hct
          clear hct
          go_wp2_with (fail)
          go_quiet (fail)
          go_wp2_with (fail)
          go_quiet (fail)
          go_wp2_with (fail)
          go_ret
          refine ⟨?_, _, (congrArg (fun x => World.drewN x _) (drewN2 _ _ _)).trans (drewN2 _ _ _)⟩
          have hp := HP.out.out
          have h1 := HCC.out
          have h2 := HTT.out
          rw [if_neg (fun e => HCT.out (by rw [← h1, ← h2, e]))] at hp
          rw [← hp]
          refine congrArg (fun x => Ending.returned (.bool x)) (decide_eq_decide.2 ?_)
          omega
      · have hb : decide ((L : Int) ≤ (i : Int)) = true := by simp; omega
        go_wp2_with (fail)
        go_ret
        refine ⟨?_, n, rfl⟩
        rw [List.drop_eq_nil_of_le (by rw [HL.out]; omega), List.drop_eq_getElem_cons (by rw [HS.out]; exact h0), pless] at hp
        exact congrArg (fun x => Ending.returned (.bool x)) hp.out
    · have hb : decide ((i : Int) < (S : Int)) = false := by simp; omega
      go_wp2_with (fail)
      go_ret
      refine ⟨?_, n, rfl⟩
      rw [(List.drop_eq_nil_of_le (by rw [HS.out]; omega) : s.drop i = []), pless] at hp
      exact congrArg (fun x => Ending.returned (.bool x)) hp.out
end Go.Proofs.YtokmamakmaojpaaGreatDoor

/- B2. -/
namespace Go.Proofs.YtokmamakmaojpaaGreatDoor
open Go.RowKit

def valL : List UInt8 → Nat
  | [] => 0
  | c :: l => (c.toNat - 48) * 10 ^ l.length + valL l
def okS : List UInt8 → Bool
  | [] => true
  | [a] => a != 48 && (decide (48 ≤ a.toNat) && decide (a.toNat ≤ 57))
  | a :: b :: s => (decide (48 ≤ a.toNat) && decide (a.toNat ≤ 57)) && okS (b :: s)

theorem valL_lt : ∀ l : List UInt8, (∀ c ∈ l, isDig c) → valL l < 10 ^ l.length
  | [], _ => by simp [valL]
  | c :: l, h => by
    have ih := valL_lt l fun c hc => h c (List.mem_cons_of_mem _ hc)
    have hc := h c (List.mem_cons_self ..)
    unfold isDig at hc
    have h2 : (c.toNat - 48) * 10 ^ l.length ≤ 9 * 10 ^ l.length := Nat.mul_le_mul_right _ (by omega)
    unfold valL
    rw [List.length_cons, Nat.pow_succ]
    omega
theorem okS_dig : ∀ s : List UInt8, okS s = true → ∀ c ∈ s, isDig c
  | [], _ => fun c hc => by cases hc
  | [a], h => fun c hc => by
    simp only [okS, Bool.and_eq_true, decide_eq_true_eq] at h
    simp only [List.mem_singleton] at hc
    subst hc
    exact h.2
  | a :: b :: s, h => fun c hc => by
    simp only [okS, Bool.and_eq_true, decide_eq_true_eq] at h
    rcases List.mem_cons.1 hc with e | e
    · subst e; exact h.1
    · exact okS_dig (b :: s) h.2 c e
theorem okS_pos : ∀ s : List UInt8, okS s = true → s ≠ [] → 0 < valL s
  | [], _, h => absurd rfl h
  | [a], h, _ => by
    simp only [okS, Bool.and_eq_true, decide_eq_true_eq, bne_iff_ne] at h
    have : a.toNat ≠ 48 := fun e => h.1 (UInt8.toNat_inj.1 e)
    simp [valL]
    omega
  | a :: b :: s, h, _ => by
    simp only [okS, Bool.and_eq_true, decide_eq_true_eq] at h
    have := okS_pos (b :: s) h.2 (by simp)
    rw [valL]
    omega
theorem okS_tail (a : UInt8) (s : List UInt8) (h : okS (a :: s) = true) : okS s = true := by
  cases s with
  | nil => rfl
  | cons b s =>
    simp only [okS, Bool.and_eq_true] at h
    exact h.2

theorem mul_pow_lt {a b A B x y : Nat} (hx : x < A) (h : a < b) (hy : 0 ≤ y) : (a * A + x) * B * 10 ≤ (b * A + y) * B * 10 := by
  have h1 : (a + 1) * A ≤ b * A := Nat.mul_le_mul_right _ h
  rw [Nat.succ_mul] at h1
  exact Nat.mul_le_mul_right _ (Nat.mul_le_mul_right _ (by omega))

theorem pless_true : ∀ (l s : List UInt8), (∀ c ∈ l, isDig c) → okS s = true → pless l s = true → valL l * 10 ^ s.length < valL s * 10 ^ l.length
  | l, [], _, _, h => by simp [pless] at h
  | [], b :: s, _, hs, _ => by
    have := okS_pos (b :: s) hs (by simp)
    simpa [valL] using this
  | a :: l, b :: s, hl, hs, h => by
    rw [pless] at h
    have hl' : ∀ c ∈ l, isDig c := fun c hc => hl c (List.mem_cons_of_mem _ hc)
    have vl := valL_lt l hl'
    have e1 : ∀ X Y A B : Nat, (X * A + Y) * (B * 10) = (X * (A * B) + Y * B) * 10 := fun X Y A B => by rw [← Nat.mul_assoc, Nat.add_mul, Nat.mul_assoc]
    have hA : 0 < 10 ^ l.length := Nat.pow_pos (by omega)
    have hB : 0 < 10 ^ s.length := Nat.pow_pos (by omega)
    rw [valL, valL, List.length_cons, List.length_cons, Nat.pow_succ, Nat.pow_succ, e1, e1, Nat.mul_comm (10 ^ s.length) (10 ^ l.length)]
    by_cases e : a = b
    · rw [if_pos e] at h
      have ih := pless_true l s hl' (okS_tail b s hs) h
      subst e
      omega
    · rw [if_neg e] at h
      have hlt := of_decide_eq_true h
      have ha := hl a (List.mem_cons_self ..)
      unfold isDig at ha
      have h1 : (a.toNat - 48 + 1) * (10 ^ l.length * 10 ^ s.length) ≤ (b.toNat - 48) * (10 ^ l.length * 10 ^ s.length) := Nat.mul_le_mul_right _ (by omega)
      rw [Nat.succ_mul] at h1
      have h2 : valL l * 10 ^ s.length < 10 ^ l.length * 10 ^ s.length := Nat.mul_lt_mul_of_pos_right vl hB
      omega
theorem pless_false : ∀ (l s : List UInt8), (∀ c ∈ l, isDig c) → okS s = true → pless l s = false → valL s * 10 ^ l.length ≤ valL l * 10 ^ s.length
  | l, [], _, _, _ => by simp [valL]
  | [], b :: s, _, _, h => by simp [pless] at h
  | a :: l, b :: s, hl, hs, h => by
    rw [pless] at h
    have hl' : ∀ c ∈ l, isDig c := fun c hc => hl c (List.mem_cons_of_mem _ hc)
    have vs := valL_lt s (okS_dig s (okS_tail b s hs))
    have e1 : ∀ X Y A B : Nat, (X * A + Y) * (B * 10) = (X * (A * B) + Y * B) * 10 := fun X Y A B => by rw [← Nat.mul_assoc, Nat.add_mul, Nat.mul_assoc]
    have hA : 0 < 10 ^ l.length := Nat.pow_pos (by omega)
    have hB : 0 < 10 ^ s.length := Nat.pow_pos (by omega)
    rw [valL, valL, List.length_cons, List.length_cons, Nat.pow_succ, Nat.pow_succ, e1, e1, Nat.mul_comm (10 ^ s.length) (10 ^ l.length)]
    by_cases e : a = b
    · rw [if_pos e] at h
      have ih := pless_false l s hl' (okS_tail b s hs) h
      subst e
      omega
    · rw [if_neg e] at h
      have hlt := of_decide_eq_false h
      have hb := okS_dig _ hs b (List.mem_cons_self ..)
      have hne : a.toNat ≠ b.toNat := fun x => e (UInt8.toNat_inj.1 x)
      unfold isDig at hb
      have h1 : (b.toNat - 48 + 1) * (10 ^ l.length * 10 ^ s.length) ≤ (a.toNat - 48) * (10 ^ l.length * 10 ^ s.length) := Nat.mul_le_mul_right _ (by omega)
      rw [Nat.succ_mul] at h1
      have h2 : valL s * 10 ^ l.length < 10 ^ s.length * 10 ^ l.length := Nat.mul_lt_mul_of_pos_right vs hA
      rw [Nat.mul_comm (10 ^ s.length)] at h2
      omega

/-- What the table of cutoffs tells, row for row. -/
theorem cheat_rows : ((List.range 61).all fun k => k == 0 || (okS (cheatS k) && (valL (cheatS k) == 5 ^ k) && decide ((cheatS k).length ≤ 100) && (cheatD k + (cheatS k).length == (k : Int) + 1) && decide (1 ≤ cheatD k) && decide (cheatD k ≤ 19) && decide (10 ^ ((cheatD k).toNat - 1) ≤ 2 ^ k) && decide (2 ^ k < 10 ^ (cheatD k).toNat))) = true := by kernel_rfl
structure Cheat (k : Nat) (s : List UInt8) (dl : Nat) : Prop where
  ok : okS s = true
  val : valL s = 5 ^ k
  len : s.length ≤ 100
  sum : dl + s.length = k + 1
  one : 1 ≤ dl
  top : dl ≤ 19
  lo : 10 ^ (dl - 1) ≤ 2 ^ k
  hi : 2 ^ k < 10 ^ dl
theorem cheat_row (k : Nat) (h0 : 1 ≤ k) (h1 : k ≤ 60) : ∃ dl : Nat, cheatD k = (dl : Int) ∧ Cheat k (cheatS k) dl := by
  have h := List.all_eq_true.1 cheat_rows k (List.mem_range.2 (by omega))
  have hk : (k == 0) = false := by simp; omega
  simp only [hk, Bool.false_or, Bool.and_eq_true, decide_eq_true_eq, beq_iff_eq] at h
  obtain ⟨⟨⟨⟨⟨⟨⟨a, b⟩, c⟩, d⟩, e⟩, f⟩, g⟩, i⟩ := h
  exact ⟨(cheatD k).toNat, by omega, a, b, c, by omega, by omega, by omega, g, i⟩

/-- How many digits the product has: as many as the digits and the row's count, less one where the digits stand before the cutoff. -/
theorem shift_lt {l s : List UInt8} {k dl : Nat} (hl : ∀ c ∈ l, isDig c) (hc : Cheat k s dl) : valL l * 2 ^ k < 10 ^ (l.length + (if pless l s = true then dl - 1 else dl)) := by
  have hv := valL_lt l hl
  by_cases hp : pless l s = true
  · rw [if_pos hp]
    have h := pless_true l s hl hc.ok hp
    rw [hc.val] at h
    have h2 := Nat.mul_lt_mul_of_pos_right h (Nat.pow_pos (by omega) : 0 < 2 ^ k)
    have e1 : 5 ^ k * 10 ^ l.length * 2 ^ k = 10 ^ (l.length + (dl - 1)) * 10 ^ s.length := by
      rw [← Nat.pow_add, Nat.mul_right_comm, ← Nat.mul_pow, ← Nat.pow_add]
      congr 1
      have := hc.sum
      have := hc.one
      omega
    rw [e1, Nat.mul_right_comm] at h2
    exact Nat.lt_of_mul_lt_mul_right h2
  · rw [if_neg hp, Nat.pow_add]
    exact Nat.mul_lt_mul'' hv hc.hi
theorem shift_ge {l s : List UInt8} {k dl : Nat} (hl : ∀ c ∈ l, isDig c) (hc : Cheat k s dl) (hne : 10 ^ (l.length - 1) ≤ valL l) (h0 : 0 < l.length) : 10 ^ (l.length + (if pless l s = true then dl - 1 else dl) - 1) ≤ valL l * 2 ^ k := by
  by_cases hp : pless l s = true
  · rw [if_pos hp]
    have h := Nat.mul_le_mul hne hc.lo
    rw [← Nat.pow_add] at h
    refine Nat.le_trans (Nat.pow_le_pow_right (by omega) ?_) h
    omega
  · rw [if_neg hp]
    have h := pless_false l s hl hc.ok (by simpa using hp)
    rw [hc.val] at h
    have h2 := Nat.mul_le_mul_right (2 ^ k) h
    have e1 : 5 ^ k * 10 ^ l.length * 2 ^ k = 10 ^ (l.length + dl - 1) * 10 ^ s.length := by
      rw [← Nat.pow_add, Nat.mul_right_comm, ← Nat.mul_pow, ← Nat.pow_add]
      congr 1
      have := hc.sum
      have := hc.one
      omega
    rw [e1, Nat.mul_right_comm] at h2
    exact Nat.le_of_mul_le_mul_right h2 (Nat.pow_pos (by omega))

/-- The carry of the long multiplication. -/
def carry (D k m : Nat) : Nat := D % 10 ^ m * 2 ^ k / 10 ^ m
theorem carry_zero (D k : Nat) : carry D k 0 = 0 := by simp [carry, Nat.mod_one]
theorem carry_lt (D k m : Nat) : carry D k m < 2 ^ k := by
  unfold carry
  rw [Nat.div_lt_iff_lt_mul (Nat.pow_pos (by omega)), Nat.mul_comm (2 ^ k)]
  exact Nat.mul_lt_mul_of_pos_right (Nat.mod_lt _ (Nat.pow_pos (by omega))) (Nat.pow_pos (by omega))
theorem carry_step (D k m : Nat) : carry D k m + D / 10 ^ m % 10 * 2 ^ k = D % 10 ^ (m + 1) * 2 ^ k / 10 ^ m := by
  unfold carry
  rw [Nat.mod_pow_succ, Nat.add_mul, Nat.mul_assoc, Nat.add_mul_div_left _ _ (Nat.pow_pos (by omega))]
theorem carry_quo (D k m : Nat) : (carry D k m + D / 10 ^ m % 10 * 2 ^ k) / 10 = carry D k (m + 1) := by
  rw [carry_step, Nat.div_div_eq_div_mul, ← Nat.pow_succ]
  rfl
theorem carry_rem (D k m : Nat) : (carry D k m + D / 10 ^ m % 10 * 2 ^ k) % 10 = D * 2 ^ k / 10 ^ m % 10 := by
  rw [carry_step]
  have e : D * 2 ^ k = D % 10 ^ (m + 1) * 2 ^ k + 10 ^ m * (10 * (D / 10 ^ (m + 1) * 2 ^ k)) := by
    rw [← Nat.mul_assoc, ← Nat.pow_succ, ← Nat.mul_assoc, ← Nat.add_mul]
    congr 1
    exact (Nat.mod_add_div D _).symm
  rw [e, Nat.add_mul_div_left _ _ (Nat.pow_pos (by omega)), Nat.add_mul_mod_self_left]
theorem carry_end (D k m : Nat) (h : D < 10 ^ m) : carry D k m = D * 2 ^ k / 10 ^ m := by rw [carry, Nat.mod_eq_of_lt h]

theorem valL_append (l : List UInt8) (c : UInt8) : valL (l ++ [c]) = valL l * 10 + (c.toNat - 48) := by
  induction l with
  | nil => simp [valL]
  | cons a l ih => rw [List.cons_append, valL, ih, valL, List.length_append, List.length_singleton, Nat.pow_succ, Nat.add_mul, Nat.mul_assoc]; omega
theorem valL_digit : ∀ (l : List UInt8) (m : Nat), (∀ c ∈ l, isDig c) → m < l.length → ((l.getD (l.length - 1 - m) 0).toNat : Nat) = 48 + valL l / 10 ^ m % 10
  | [], m, _, h => by simp at h
  | c :: l, m, hd, h => by
    have hd' : ∀ c ∈ l, isDig c := fun c hc => hd c (List.mem_cons_of_mem _ hc)
    have hlt := valL_lt l hd'
    have hc := hd c (List.mem_cons_self ..)
    unfold isDig at hc
    by_cases e : m = l.length
    · subst e
      rw [List.length_cons, show l.length + 1 - 1 - l.length = 0 by omega, valL, Nat.add_comm ((c.toNat - 48) * _), Nat.add_mul_div_right _ _ (Nat.pow_pos (by omega)), Nat.div_eq_of_lt hlt, Nat.zero_add, Nat.mod_eq_of_lt (by omega)]
      show c.toNat = _
      omega
    · rw [List.length_cons] at h ⊢
      have ih := valL_digit l m hd' (by omega)
      rw [show l.length + 1 - 1 - m = (l.length - 1 - m) + 1 by omega]
      show (l.getD (l.length - 1 - m) 0).toNat = _
      rw [ih, valL]
      have e2 : 10 ^ l.length = 10 ^ m * (10 * 10 ^ (l.length - m - 1)) := by
        rw [← Nat.mul_assoc, ← Nat.pow_succ, ← Nat.pow_add]
        congr 1
        omega
      rw [e2, show (c.toNat - 48) * (10 ^ m * (10 * 10 ^ (l.length - m - 1))) = 10 ^ m * (10 * ((c.toNat - 48) * 10 ^ (l.length - m - 1))) from by
        rw [Nat.mul_left_comm, Nat.mul_left_comm (c.toNat - 48) 10], Nat.add_comm (10 ^ m * _), Nat.add_mul_div_left _ _ (Nat.pow_pos (by omega)), Nat.add_mul_mod_self_left]
theorem valL_head {l : List UInt8} (hd : ∀ c ∈ l, isDig c) (h0 : l[0]? ≠ some 48) (hl : 0 < l.length) : 10 ^ (l.length - 1) ≤ valL l := by
  cases l with
  | nil => simp at hl
  | cons c l =>
    have hc := hd c (List.mem_cons_self ..)
    unfold isDig at hc
    have hne : c.toNat ≠ 48 := fun e => h0 (by rw [List.getElem?_cons_zero]; exact congrArg some (UInt8.toNat_inj.1 e))
    have h1 : 1 * 10 ^ l.length ≤ (c.toNat - 48) * 10 ^ l.length := Nat.mul_le_mul_right _ (by omega)
    rw [valL, List.length_cons, Nat.add_sub_cancel]
    omega
end Go.Proofs.YtokmamakmaojpaaGreatDoor

/- A23. -/
namespace Go.Proofs.YtokmamakmaojpaaGreatDoor
open Go.RowKit

/-- How many bytes stand ahead of the c's at the end. -/
def trimC (c : UInt8) : List UInt8 → Nat
  | [] => 0
  | a :: l => if trimC c l = 0 then (if a = c then 0 else 1) else trimC c l + 1
theorem trimC_le (c : UInt8) : ∀ l : List UInt8, trimC c l ≤ l.length
  | [] => Nat.le_refl _
  | a :: l => by
    have := trimC_le c l
    unfold trimC
    rw [List.length_cons]
    split
    · split <;> omega
    · omega
theorem trimC_tail (c : UInt8) : ∀ (l : List UInt8) (j : Nat), trimC c l ≤ j → j < l.length → l[j]? = some c
  | [], j, _, h => by simp at h
  | a :: l, j, h0, h1 => by
    unfold trimC at h0
    by_cases e : trimC c l = 0
    · rw [if_pos e] at h0
      by_cases ea : a = c
      · rw [if_pos ea] at h0
        cases j with
        | zero => rw [List.getElem?_cons_zero, ea]
        | succ j => rw [List.getElem?_cons_succ]; exact trimC_tail c l j (by omega) (by simpa using h1)
      · rw [if_neg ea] at h0
        cases j with
        | zero => omega
        | succ j => rw [List.getElem?_cons_succ]; exact trimC_tail c l j (by omega) (by simpa using h1)
    · rw [if_neg e] at h0
      cases j with
      | zero => omega
      | succ j => rw [List.getElem?_cons_succ]; exact trimC_tail c l j (by omega) (by simpa using h1)
theorem trimC_last (c : UInt8) : ∀ l : List UInt8, 0 < trimC c l → l[trimC c l - 1]? ≠ some c
  | [], h => by simp [trimC] at h
  | a :: l, h => by
    by_cases e : trimC c l = 0
    · by_cases ea : a = c
      · simp [trimC, e, ea] at h
      · have : trimC c (a :: l) = 1 := by simp [trimC, e, ea]
        rw [this]
        simpa using ea
    · have h1 : trimC c (a :: l) = trimC c l + 1 := by simp [trimC, e]
      rw [h1, Nat.add_sub_cancel]
      obtain ⟨k, hk⟩ : ∃ k, trimC c l = k + 1 := ⟨trimC c l - 1, by omega⟩
      have := trimC_last c l (by omega)
      rw [hk] at this ⊢
      rw [List.getElem?_cons_succ]
      exact this
theorem trimC_unique (c : UInt8) (l : List UInt8) (n : Nat) (hn : n ≤ l.length) (h0 : ∀ j, n ≤ j → j < l.length → l[j]? = some c) (h1 : n = 0 ∨ l[n - 1]? ≠ some c) : n = trimC c l := by
  rcases Nat.lt_trichotomy n (trimC c l) with h | h | h
  · exfalso
    exact trimC_last c l (by omega) (h0 _ (by omega) (by have := trimC_le c l; omega))
  · exact h
  · exfalso
    rcases h1 with h1 | h1
    · omega
    · exact h1 (trimC_tail c l (n - 1) (by omega) (by omega))

theorem extract_take (s : List UInt8) (n : Nat) : (⟨s.toArray⟩ : ByteArray).extract 0 n = ⟨(s.take n).toArray⟩ := by
  apply ByteArray.ext
  simp

set_option maxHeartbeats 1000000 in
theorem zzTrim_any (c : UInt8) (s : List UInt8) (w : World) (hs : s.length ≤ 100000) :
    Calls Tryz.prog 81 #[.string ⟨s.toArray⟩, .string ⟨#[c]⟩] w (Still (.string ⟨(s.take (trimC c s)).toArray⟩) w) := by
  obtain ⟨S, hS⟩ : ∃ S, (⟨s.toArray⟩ : ByteArray).size = S := ⟨_, rfl⟩
  have hS2 : s.length = S := hS
  have hc1 : (⟨#[c]⟩ : ByteArray).size = 1 := rfl
  obtain ⟨t, ht⟩ : ∃ t : Int, (((⟨#[c]⟩ : ByteArray)[0]'(by rw [hc1]; omega)).toNat : Int) = t := ⟨_, rfl⟩
  have HTC : Hid ((c.toNat : Int) = t) := Lib.hid ht
  have HS2 := Lib.hid hS2
  rw [hS2] at hs
  clear hS2
  go_enter Tryz.func81, Tryz.ntmps81
  go_wp2_with (fail)
  go_loopg [5, 6, 7] S (fun g v5 _ _ wr => v5 = .int .i64 (g : Int) ∧ g ≤ S ∧ (∃ n, wr = w.drewN n) ∧ Hid (∀ j, g ≤ j → j < S → s[j]? = some c))
  case atStart => exact ⟨by go_num, Nat.le_refl _, ⟨0, rfl⟩, Lib.hid fun j h0 h1 => by omega⟩
  case round =>
    obtain ⟨rfl, hg, ⟨n, rfl⟩, hz⟩ := hrel
    cases gk with
    | zero =>
      have e : 0 = trimC c s := trimC_unique c s 0 (by omega) (fun j h0 h1 => hz.out j h0 (by rw [← HS2.out]; exact h1)) (Or.inl rfl)
      have HE := Lib.hid e
      clear e
      go_wp2_with (fail)
      go_ret
      refine ⟨?_, n, rfl⟩
      rw [← HE.out]
      rfl
    | succ m =>
      obtain ⟨y, hy⟩ : ∃ y, s[m]? = some y := ⟨_, List.getElem?_eq_getElem (by rw [HS2.out]; omega)⟩
      have hm2 : m < (⟨s.toArray⟩ : ByteArray).size := by rw [hS]; omega
      obtain ⟨u, hu⟩ : ∃ u : Int, (((⟨s.toArray⟩ : ByteArray)[m]'hm2).toNat : Int) = u := ⟨_, rfl⟩
      have hyu : (y.toNat : Int) = u := by
        rw [← hu]
        have : (⟨s.toArray⟩ : ByteArray)[m]'hm2 = y := by
          have h := hy
          rw [List.getElem?_eq_getElem (by rw [HS2.out]; omega)] at h
          exact Option.some.inj h
        rw [this]
      have HY := Lib.hid hy
      have HYU := Lib.hid hyu
      have hgs : ((m + 1 : Nat) : Int) = (m : Int) + 1 := by omega
      rw [hgs]
      clear hy hyu hgs
      obtain ⟨bq, hbq⟩ : ∃ bq, (t == u) = bq := ⟨_, rfl⟩
      go_wp2_with (fail)
      go_loopg [6, 7] 1 (fun g v6 v7 wr => (∃ n, wr = w.drewN n) ∧ ((g = 1 ∧ v6 = .bool false ∧ v7 = .int .i64 0) ∨ (g = 0 ∧ v6 = .bool bq ∧ v7 = .int .i64 1)))
      case atStart => exact ⟨⟨n, rfl⟩, Or.inl ⟨rfl, rfl, rfl⟩⟩
      case round =>
        obtain ⟨⟨n', rfl⟩, ⟨rfl, rfl, rfl⟩ | ⟨rfl, rfl, rfl⟩⟩ := hrel
        · cases bq
          · go_wp2_with (fail)
            go_quiet (fail)
            go_wp2_with (fail)
            go_roundg 0
            case measure => omega
            case rel => exact ⟨⟨_, rfl⟩, Or.inr ⟨rfl, rfl, by go_num⟩⟩
          · go_wp2_with (fail)
            go_quiet (fail)
            go_wp2_with (fail)
            go_roundg 0
            case measure => omega
            case rel => exact ⟨⟨_, rfl⟩, Or.inr ⟨rfl, rfl, by go_num⟩⟩
        · cases bq
          · have e : m + 1 = trimC c s := trimC_unique c s (m + 1) (by rw [HS2.out]; omega) (fun j h0 h1 => hz.out j h0 (by rw [← HS2.out]; exact h1)) (Or.inr fun hx => by
              rw [Nat.add_sub_cancel, HY.out] at hx
              have h1 := Option.some.inj hx
              have h2 := HYU.out
              have h3 := HTC.out
              rw [h1] at h2
              rw [← h2, ← h3] at hbq
              simp at hbq)
            have HE := Lib.hid e
            clear e hbq
            go_wp2_with (fail)
            go_ret
            refine ⟨?_, _, rfl⟩
            rw [← HE.out, ← extract_take]
            rfl
          · have hcu : y = c := UInt8.toNat_inj.1 (by
              have h1 : t = u := by simpa using hbq
              have h2 := HYU.out
              have h3 := HTC.out
              omega)
            have HCU := Lib.hid hcu
            clear hcu hbq
            go_wp2_with (fail)
            go_roundg m
            case measure => omega
            case rel =>
              refine ⟨by go_num, by omega, ⟨_, rfl⟩, Lib.hid fun j h0 h1 => ?_⟩
              rcases Nat.eq_or_lt_of_le h0 with e | e
              · subst e
                rw [HY.out, HCU.out]
              · exact hz.out j e h1
end Go.Proofs.YtokmamakmaojpaaGreatDoor

/- A25. -/
namespace Go.Proofs.YtokmamakmaojpaaGreatDoor
open Go.RowKit

/-- How many numbers a place has in a layout. -/
def strideF (l : Int) : Int := if l < 1 then 0 else if l = 1 then 2 else if l = 2 ∨ l = 3 then 3 else l
theorem stride17 (l : Int) (h0 : 0 ≤ l) (h1 : l ≤ 9) (w : World) : Calls Tryz.prog 17 #[.int .i64 l] w (Same (.int .i64 (strideF l)) w) := by
  have h : l = 0 ∨ l = 1 ∨ l = 2 ∨ l = 3 ∨ l = 4 ∨ l = 5 ∨ l = 6 ∨ l = 7 ∨ l = 8 ∨ l = 9 := by omega
  rcases h with rfl | rfl | rfl | rfl | rfl | rfl | rfl | rfl | rfl | rfl
  all_goals
    go_enter Tryz.func17, Tryz.ntmps17
    go_wp2
    go_ret
    exact Same.mk
theorem stride55 (l : Int) (h0 : 0 ≤ l) (h1 : l ≤ 9) (w : World) : Calls Tryz.prog 55 #[.int .i64 l] w (Same (.int .i64 (strideF l)) w) := by
  have h : l = 0 ∨ l = 1 ∨ l = 2 ∨ l = 3 ∨ l = 4 ∨ l = 5 ∨ l = 6 ∨ l = 7 ∨ l = 8 ∨ l = 9 := by omega
  rcases h with rfl | rfl | rfl | rfl | rfl | rfl | rfl | rfl | rfl | rfl
  all_goals
    go_enter Tryz.func55, Tryz.ntmps55
    go_wp2
    go_ret
    exact Same.mk
/-- The kind of the parts of a multi. -/
def kidF (k : Int) : Int := if 4 ≤ k ∧ k ≤ 6 then k - 3 else 0
/-- The smallest layout that covers two. -/
def coverF (a b : Int) : Int := if (a = 2 ∧ b = 3) ∨ (a = 3 ∧ b = 2) then 4 else max a b
theorem cover46 (a b : Int) (h0 : 0 ≤ a) (h1 : a ≤ 9) (h2 : 0 ≤ b) (h3 : b ≤ 9) (w : World) : Calls Tryz.prog 46 #[.int .i64 a, .int .i64 b] w (Same (.int .i64 (coverF a b)) w) := by
  by_cases hs : (a = 2 ∧ b = 3) ∨ (a = 3 ∧ b = 2)
  · have hc : coverF a b = 4 := if_pos hs
    rw [hc]
    clear hc
    rcases hs with ⟨rfl, rfl⟩ | ⟨rfl, rfl⟩
    all_goals
      go_enter Tryz.func46, Tryz.ntmps46
      go_wp2
      go_ret
      exact Same.mk
  · obtain ⟨M, hM⟩ : ∃ M, coverF a b = M := ⟨_, rfl⟩
    have hc : M = max a b := by rw [← hM]; exact if_neg hs
    rw [hM]
    clear hM
    have ht : (a = 2 ∧ (b == 3) = false) ∨ (a = 3 ∧ (b == 2) = false) ∨ ((a == 2) = false ∧ (a == 3) = false) := by
      by_cases a2 : a = 2
      · exact Or.inl ⟨a2, beq_false_of_ne (by omega)⟩
      · by_cases a3 : a = 3
        · exact Or.inr (Or.inl ⟨a3, beq_false_of_ne (by omega)⟩)
        · exact Or.inr (Or.inr ⟨beq_false_of_ne a2, beq_false_of_ne a3⟩)
    by_cases hab : a < b
    · obtain rfl : M = b := by omega
      clear hc hs
      rcases ht with ⟨rfl, ht⟩ | ⟨rfl, ht⟩ | ⟨ht, ht'⟩
      all_goals
        go_enter Tryz.func46, Tryz.ntmps46
        go_wp2
        go_ret
        exact ⟨rfl, rfl⟩
    · obtain rfl : M = a := by omega
      clear hc hs
      rcases ht with ⟨rfl, ht⟩ | ⟨rfl, ht⟩ | ⟨ht, ht'⟩
      all_goals
        go_enter Tryz.func46, Tryz.ntmps46
        go_wp2
        go_ret
        exact ⟨rfl, rfl⟩
theorem kid78 (k : Int) (h0 : 0 ≤ k) (h1 : k ≤ 9) (w : World) : Calls Tryz.prog 78 #[.int .i64 k] w (Same (.int .i64 (kidF k)) w) := by
  have h : k = 0 ∨ k = 1 ∨ k = 2 ∨ k = 3 ∨ k = 4 ∨ k = 5 ∨ k = 6 ∨ k = 7 ∨ k = 8 ∨ k = 9 := by omega
  rcases h with rfl | rfl | rfl | rfl | rfl | rfl | rfl | rfl | rfl | rfl
  all_goals
    go_enter Tryz.func78, Tryz.ntmps78
    go_wp2
    go_ret
    exact Same.mk
end Go.Proofs.YtokmamakmaojpaaGreatDoor

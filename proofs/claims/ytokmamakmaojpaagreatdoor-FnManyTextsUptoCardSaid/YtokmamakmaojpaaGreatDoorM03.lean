/-
  B0. Plain laws on lists of digits: noughts at the end, and the digits of a number.
  B1. Plain: the text that strconv's %f makes of digits.
-/
import Derived.Lib.ItoaNum
set_option linter.unusedVariables false
set_option linter.unusedSimpArgs false
/- B0. -/
namespace Go.Proofs.YtokmamakmaojpaaGreatDoor

/-- How long a list of bytes is without the noughts at its end. -/
def trimN : List UInt8 → Nat
  | [] => 0
  | c :: r => if trimN r = 0 ∧ c = 48 then 0 else trimN r + 1
theorem trimN_le : ∀ l : List UInt8, trimN l ≤ l.length
  | [] => Nat.le_refl _
  | c :: r => by
    have := trimN_le r
    unfold trimN
    split <;> simp <;> omega
theorem trimN_zeros : ∀ (l : List UInt8) (j : Nat), trimN l ≤ j → j < l.length → l[j]? = some 48
  | [], j, _, h => by simp at h
  | c :: r, j, h0, h1 => by
    unfold trimN at h0
    by_cases e : trimN r = 0 ∧ c = 48
    · cases j with
      | zero => simp [e.2]
      | succ j => simpa using trimN_zeros r j (by omega) (by simpa using h1)
    · rw [if_neg e] at h0
      cases j with
      | zero => omega
      | succ j => simpa using trimN_zeros r j (by omega) (by simpa using h1)
theorem trimN_last : ∀ l : List UInt8, 0 < trimN l → l[trimN l - 1]? ≠ some 48
  | [], h => by simp [trimN] at h
  | c :: r, h => by
    unfold trimN at h ⊢
    by_cases e : trimN r = 0 ∧ c = 48
    · rw [if_pos e] at h; omega
    · rw [if_neg e]
      by_cases z : trimN r = 0
      · have hc : c ≠ 48 := fun hc => e ⟨z, hc⟩
        simp [z, hc]
      · have := trimN_last r (by omega)
        rw [show trimN r + 1 - 1 = (trimN r - 1) + 1 by omega]
        simpa using this
/-- The place behind which all are noughts, and ahead of which there is none: that is it. -/
theorem trimN_unique (l : List UInt8) (n : Nat) (hn : n ≤ l.length) (h0 : ∀ j, n ≤ j → j < l.length → l[j]? = some 48) (h1 : n = 0 ∨ l[n - 1]? ≠ some 48) : n = trimN l := by
  rcases Nat.lt_trichotomy n (trimN l) with h | h | h
  · have hl := trimN_le l
    exact absurd (h0 (trimN l - 1) (by omega) (by omega)) (trimN_last l (by omega))
  · exact h
  · rcases h1 with h1 | h1
    · omega
    · exact absurd (trimN_zeros l (n - 1) (by omega) (by omega)) h1

/-- A number's digits; none of 0. -/
def digs (u : Nat) : List UInt8 := if u = 0 then [] else Lib.decDigits u
theorem digs_zero : digs 0 = [] := rfl
theorem digs_pos {u : Nat} (h : u ≠ 0) : digs u = Lib.decDigits u := if_neg h
theorem digs_length_pos {u : Nat} (h : u ≠ 0) : (digs u).length = Lib.nDigits u := by rw [digs_pos h, Lib.decDigits_length]
theorem lt_pow_digs (u : Nat) : u < 10 ^ (digs u).length := by
  by_cases h : u = 0
  · subst h; simp [digs]
  · rw [digs_length_pos h]; exact Lib.lt_pow_nDigits u
theorem digs_at (u t : Nat) (h : t < (digs u).length) : (digs u)[t]? = some (Lib.dg u ((digs u).length - 1 - t)) := by
  have hu : u ≠ 0 := by rintro rfl; simp [digs] at h
  rw [digs_length_pos hu] at h
  rw [digs_length_pos hu, digs_pos hu, Lib.decDigits_eq, List.getElem?_map, List.getElem?_range h]
  rfl
/-- A byte that is a digit. -/
def isDig (c : UInt8) : Prop := 48 ≤ c.toNat ∧ c.toNat ≤ 57
theorem dg_isDig (u j : Nat) : isDig (Lib.dg u j) := by
  have h : (48 + u / 10 ^ j % 10) % 256 = 48 + u / 10 ^ j % 10 := by omega
  have e : (Lib.dg u j).toNat = 48 + u / 10 ^ j % 10 := by
    unfold Lib.dg
    rw [UInt8.toNat_ofNat']
    exact h
  constructor <;> rw [e] <;> omega
theorem digs_isDig (u : Nat) (c : UInt8) (h : c ∈ digs u) : isDig c := by
  obtain ⟨t, ht, e⟩ := List.getElem_of_mem h
  have := digs_at u t ht
  rw [List.getElem?_eq_getElem ht, e] at this
  rw [Option.some.inj this]
  exact dg_isDig u _
theorem nDigits_le : ∀ (k u : Nat), u ≠ 0 → u < 10 ^ k → Lib.nDigits u ≤ k
  | 0, u, h0, h => by simp at h; omega
  | k + 1, u, h0, h => by
    by_cases hs : u < 10
    · rw [Lib.nDigits_small hs]; omega
    · rw [Lib.nDigits_big hs]
      have := nDigits_le k (u / 10) (by omega) (by rw [Nat.pow_succ] at h; omega)
      omega
theorem digs_length_le (u k : Nat) (h : u < 10 ^ k) : (digs u).length ≤ k := by
  by_cases h0 : u = 0
  · subst h0; simp [digs]
  · rw [digs_length_pos h0]
    exact nDigits_le k u h0 h
theorem digs_length_ge (u k : Nat) (h : 10 ^ k ≤ u) : k + 1 ≤ (digs u).length := by
  have h1 := lt_pow_digs u
  rcases Nat.lt_or_ge k (digs u).length with hc | hc
  · omega
  · have : 10 ^ (digs u).length ≤ 10 ^ k := Nat.pow_le_pow_right (by decide) hc
    omega
/-- The first digit is none of 0. -/
theorem digs_head (u : Nat) (h : u ≠ 0) : (digs u)[0]? ≠ some 48 := by
  have hl : 0 < (digs u).length := by rw [digs_length_pos h]; exact Lib.nDigits_pos u
  rw [digs_at u 0 hl]
  intro e
  have e := Option.some.inj e
  have e1 : (Lib.dg u ((digs u).length - 1 - 0)).toNat = 48 := by rw [e]; rfl
  have e2 : (Lib.dg u ((digs u).length - 1 - 0)).toNat = 48 + u / 10 ^ ((digs u).length - 1 - 0) % 10 := by
    unfold Lib.dg
    rw [UInt8.toNat_ofNat']
    omega
  have h1 := lt_pow_digs u
  have h2 : u < 10 ^ ((digs u).length - 1) := by
    have hq : u / 10 ^ ((digs u).length - 1) < 10 := by
      apply Nat.div_lt_of_lt_mul
      have e3 : 10 ^ ((digs u).length - 1) * 10 = 10 ^ (digs u).length := by
        rw [← Nat.pow_succ]
        congr 1
        omega
      rw [e3]
      exact h1
    simp only [Nat.sub_zero] at e1 e2
    have hz : u / 10 ^ ((digs u).length - 1) = 0 := by
      generalize u / 10 ^ ((digs u).length - 1) = q at hq e2
      omega
    rcases Nat.lt_or_ge u (10 ^ ((digs u).length - 1)) with hc | hc
    · exact hc
    · have := Nat.div_pos hc (Nat.pow_pos (by decide))
      omega
  have := digs_length_le u _ h2
  omega

end Go.Proofs.YtokmamakmaojpaaGreatDoor

/- B1. -/
namespace Go.Proofs.YtokmamakmaojpaaGreatDoor

/-- The whole part. -/
def wholeF (ds : List UInt8) (dp nd : Int) : List UInt8 :=
  if 0 < dp then ds.take (min nd dp).toNat ++ List.replicate (dp - min nd dp).toNat 48 else [48]
/-- The digits behind the point. -/
def fracDigits (ds : List UInt8) (dp nd prec : Int) : List UInt8 :=
  let lz := min prec (max 0 (-dp))
  let m := min (prec - lz) (max 0 (nd - (dp + lz)))
  List.replicate lz.toNat 48 ++ ((ds.drop (dp + lz).toNat).take m.toNat ++ List.replicate (max 0 (prec - lz - m)).toNat 48)
def fracF (ds : List UInt8) (dp nd prec : Int) : List UInt8 := if 0 < prec then 46 :: fracDigits ds dp nd prec else []
def signF (neg : Bool) : List UInt8 := if neg = true then [45] else []
def fixF (neg : Bool) (ds : List UInt8) (dp nd prec : Int) : List UInt8 := signF neg ++ (wholeF ds dp nd ++ fracF ds dp nd prec)
theorem signF_length (b : Bool) : (signF b).length ≤ 1 := by cases b <;> simp [signF]
theorem wholeF_length (ds : List UInt8) (dp : Int) (N : Nat) (h : dp ≤ 1000) : (wholeF ds dp N).length ≤ 1000 := by
  unfold wholeF
  split
  · have := List.length_take_le (min (N : Int) dp).toNat ds
    simp only [List.length_append, List.length_replicate]
    omega
  · simp
theorem take_snoc_getD (ds : List UInt8) (k : Nat) (h : k < ds.length) : ds.take (k + 1) = ds.take k ++ [ds.getD k 0] := by
  rw [List.take_succ_eq_append_getElem h, List.getD_eq_getElem?_getD, List.getElem?_eq_getElem h]
  rfl
theorem take_drop_snoc (ds : List UInt8) (o k : Nat) (h : o + k < ds.length) : (ds.drop o).take (k + 1) = (ds.drop o).take k ++ [ds.getD (o + k) 0] := by
  rw [take_snoc_getD _ k (by rw [List.length_drop]; omega)]
  congr 2
  rw [List.getD_eq_getElem?_getD, List.getD_eq_getElem?_getD, List.getElem?_drop]
theorem wholeF_lt (ds : List UInt8) (D N : Nat) (h0 : 0 < D) (h : D < N) : wholeF ds D N = ds.take D ++ List.replicate 0 48 := by
  unfold wholeF
  rw [if_pos (by omega), show (min (N : Int) D).toNat = D by omega, show ((D : Int) - min (N : Int) D).toNat = 0 by omega]
theorem wholeF_ge (ds : List UInt8) (D N : Nat) (h0 : 0 < D) (h : N ≤ D) : wholeF ds D N = ds.take N ++ List.replicate (D - N) 48 := by
  unfold wholeF
  rw [if_pos (by omega), show (min (N : Int) D).toNat = N by omega, show ((D : Int) - min (N : Int) D).toNat = D - N by omega]
theorem fracF_eq (ds : List UInt8) (dp : Int) (N P : Nat) (A Z M0 M T0 : Int) (hP : 0 < P) (hA : (if dp < 0 then -dp else 0) = A) (hZ : (if A < (P : Int) then A else P) = Z) (hM0 : (if dp + Z < (N : Int) then (N : Int) - (dp + Z) else 0) = M0)
    (hM : (if M0 < (P : Int) - Z then M0 else (P : Int) - Z) = M) (hT0 : (if M < (P : Int) - Z then (P : Int) - Z - M else 0) = T0) :
    fracF ds dp N P = [46] ++ List.replicate Z.toNat 48 ++ (ds.drop (dp + Z).toNat).take M.toNat ++ List.replicate T0.toNat 48 := by
  have e1 : min (P : Int) (max 0 (-dp)) = Z := by
    subst hA; split at hZ <;> split at * <;> omega
  have e2 : min ((P : Int) - Z) (max 0 ((N : Int) - (dp + Z))) = M := by
    clear hA hZ hT0
    split at hM0 <;> split at hM <;> omega
  have e3 : max 0 ((P : Int) - Z - M) = T0 := by
    clear hA hZ hM0 hM
    split at hT0 <;> omega
  unfold fracF fracDigits
  rw [if_pos (by omega)]
  simp only [e1, e2, e3]
  simp

end Go.Proofs.YtokmamakmaojpaaGreatDoor

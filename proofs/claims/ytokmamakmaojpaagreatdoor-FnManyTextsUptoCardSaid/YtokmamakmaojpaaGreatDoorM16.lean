/-
  A21. ftoa64 at nought and at what is no number.
  A22. strconv.FormatFloat at 'f', -1 to 20 digits: one text a number, whatever the world.
  B4. Plain: in a number's text no two points stand side by side; so the two ways of trimming are one.
  A24. spec.WriteNumber.
  T0. Plain: the text of a geometry, by its data.
  E0. The encoder: how long a number's text is; what stays of a builder; a row of numbers.
  E1. The encoder: writeCoord.
-/
import Derived.Test.YtokmamakmaojpaaGreatDoorM14
import Derived.Test.YtokmamakmaojpaaGreatDoorM11
import Derived.Test.YtokmamakmaojpaaGreatDoorM15
import Derived.Test.YtokmamakmaojpaaGreatDoorM07
import Derived.Test.YtokmamakmaojpaaGreatDoorM12
import Derived.Test.YtokmamakmaojpaaGreatDoorM13
set_option linter.unusedVariables false
set_option linter.unusedSimpArgs false
/- A21. -/
namespace Go.Proofs.YtokmamakmaojpaaGreatDoor
open Go.RowKit Go.Sort

set_option maxRecDepth 100000 in
set_option maxHeartbeats 2000000 in
theorem ftoa_zero (x E M : Nat) (neg : Bool) (hb : Bits x E M neg) (hE : E = 0) (hM : M = 0) (prec : Int) (hp0 : -1 ≤ prec) (hp1 : prec ≤ 20) :
    ∃ s, FixS s ∧ Ftoa x prec s := by
  refine ⟨fixF neg [] 0 0 prec, ⟨neg, [], 0, 0, prec, rfl, (fun _ h => nomatch h), by omega, by omega⟩, fun B v w hT hR => ?_⟩
  have hr87 := fun w => run87 x w
  have h1 := hb.exp
  have h2 := hb.man
  have h3 := hb.sgn
  have h6 := hb.all
  subst hE hM
  have hRB := Lib.hid hR
  clear hR hT hb
  go_enter Tryz.func85, Tryz.ntmps85
  go_upto_region 14 with (fail)
  go_quiet (fail)
  go_upto_region 31 with (fail)
  clear h1 h2 h3 hr87
  go_wp2_with (go_at_call 90; refine (fmtF_nil B v neg _ prec _ (hRB.out.drewN _).rebase hp0 (by omega)).mono ?_; rintro e w5 ⟨v', rfl, hR5⟩; have HR5 := Lib.hid ((hRB.out.drewN _).join hR5); clear hR5)
  go_ret
  exact ⟨_, rfl, HR5.out⟩

/-- 'append(v, text...)'. -/
theorem wpList_text {ops : Array Oper} {rest : List Oper} {o : Oper} {a : Act} {Q : Exit → Act → World → Prop} {B : Nat} {w0 w : World} {v : Value} (hR : BRow B w0 v [] w) (t : List UInt8) (ht : t.length ≤ 1000)
    (hgd : o.guard = none) (s x : Operand) (ho : o.op = .call { callee := .builtin .append, args := #[s, x], argTypes := #[60, 9] }) (hs : a.eval s = v) (hx : a.eval x = .string ⟨t.toArray⟩)
    (h : ∀ v' w', BRow B w0 v' t w' → wpList Tryz.prog ops Q rest (a.put o.dst v') w') : wpList Tryz.prog ops Q (o :: rest) a w := by
  obtain ⟨i0, hi, hz0, hz1, hz2⟩ := info_parts info5
  have hsz : (⟨t.toArray⟩ : ByteArray).size = t.length := rfl
  refine Lib.wpList_append_own_string w hgd s x 60 9 ho B 5 i0 (by kernel_rfl) (by kernel_rfl) hi hz0 hz1 hz2 v 0 [] hs hR.own ⟨t.toArray⟩ hx (by rw [hsz]; unfold maxLen; omega) (by rw [hsz]; omega) (Nat.le_trans hR.base hR.below.size) ?_
  intro v' w' h1 h2 _
  refine h v' w' (hR.grown (m := t) h2 ?_)
  have e : Lib.strCells ⟨t.toArray⟩ = Lib.byteCells t := by
    simp [Lib.strCells, Lib.byteCells]
  rw [e, hsz, Nat.zero_add] at h1
  exact h1

set_option maxRecDepth 100000 in
set_option maxHeartbeats 2000000 in
theorem ftoa_special (x E M : Nat) (neg : Bool) (hb : Bits x E M neg) (hE : E = 2047) (prec : Int) :
    ∃ s, (s = [78, 97, 78] ∨ s = [45, 73, 110, 102] ∨ s = [43, 73, 110, 102]) ∧ Ftoa x prec s := by
  have h1 := hb.exp
  have h2 := hb.man
  have h3 := hb.sgn
  have h6 := hb.all
  subst hE
  clear hb
  by_cases hM : M = 0
  · subst hM
    cases neg
    · refine ⟨[43, 73, 110, 102], Or.inr (Or.inr rfl), fun B v w hT hR => ?_⟩
      have hr87 := fun w => run87 x w
      have hRB := Lib.hid hR
      clear hR hT
      go_enter Tryz.func85, Tryz.ntmps85
      go_upto_region 14 with (fail)
      go_quiet (fail)
      go_wp2_with (at_builtin; refine wpList_text (hRB.out.drewN _) [43, 73, 110, 102] (by decide) rfl _ _ rfl rfl rfl ?_; intro v' w' hR')
      go_ret
      exact ⟨_, rfl, hR'⟩
    · refine ⟨[45, 73, 110, 102], Or.inr (Or.inl rfl), fun B v w hT hR => ?_⟩
      have hr87 := fun w => run87 x w
      have hRB := Lib.hid hR
      clear hR hT
      go_enter Tryz.func85, Tryz.ntmps85
      go_upto_region 14 with (fail)
      go_quiet (fail)
      go_wp2_with (at_builtin; refine wpList_text (hRB.out.drewN _) [45, 73, 110, 102] (by decide) rfl _ _ rfl rfl rfl ?_; intro v' w' hR')
      go_ret
      exact ⟨_, rfl, hR'⟩
  · have hMb : ((M : Int) != 0) = true := by rw [bne, beq_false_of_ne (by omega)]; rfl
    refine ⟨[78, 97, 78], Or.inl rfl, fun B v w hT hR => ?_⟩
    have hr87 := fun w => run87 x w
    have hRB := Lib.hid hR
    clear hR hT
    go_enter Tryz.func85, Tryz.ntmps85
    go_upto_region 14 with (fail)
    go_quiet (fail)
    go_wp2_with (at_builtin; refine wpList_text (hRB.out.drewN _) [78, 97, 78] (by decide) rfl _ _ rfl rfl rfl ?_; intro v' w' hR')
    go_ret
    exact ⟨_, rfl, hR'⟩
end Go.Proofs.YtokmamakmaojpaaGreatDoor

/- A22. -/
namespace Go.Proofs.YtokmamakmaojpaaGreatDoor
open Go.RowKit Go.Sort

/-- A text of a number: as %f makes it, or NaN, -Inf, +Inf. -/
def NumS (s : List UInt8) : Prop := FixS s ∨ s = [78, 97, 78] ∨ s = [45, 73, 110, 102] ∨ s = [43, 73, 110, 102]

theorem ftoa_all (x : Nat) (hx : x < 18446744073709551616) (prec : Int) (hp0 : -1 ≤ prec) (hp1 : prec ≤ 20) : ∃ s, NumS s ∧ Ftoa x prec s := by
  obtain ⟨E, M, neg, hb⟩ := bits_of x hx
  by_cases hE : E = 2047
  · obtain ⟨s, h1, h2⟩ := ftoa_special x E M neg hb hE prec
    exact ⟨s, Or.inr h1, h2⟩
  have hE1 : E < 2047 := by have := hb.top; omega
  obtain ⟨X, Mt, hsp, hX0, hX1, hMtl⟩ := split_of hb hE1
  have fix : (∃ s, FixS s ∧ Ftoa x prec s) → ∃ s, NumS s ∧ Ftoa x prec s := fun ⟨s, h1, h2⟩ => ⟨s, Or.inl h1, h2⟩
  apply fix
  by_cases hM0 : Mt = 0
  · rcases hsp with ⟨g1, g2, g3⟩ | ⟨g1, g2, g3⟩
    · exact ftoa_zero x E M neg hb (by simpa using g1) (by omega) prec hp0 hp1
    · exfalso
      rw [hb.orM] at g3
      omega
  have hM1 : 0 < Mt := by omega
  by_cases hp : prec = -1
  · subst hp
    exact ftoa_short x E M neg hb hE1 X Mt hsp hX0 hX1 hMtl hM1
  have hp2 : 0 ≤ prec := by omega
  obtain ⟨ex, eX⟩ : ∃ ex : Int, (X : Int) + -1023 = ex := ⟨_, rfl⟩
  obtain ⟨Dg, hDg⟩ : ∃ Dg, Asked ex prec Dg := by
    by_cases h : 0 ≤ ex
    · exact ⟨_, Or.inl ⟨h, rfl⟩⟩
    · exact ⟨_, Or.inr ⟨by omega, _, rfl, rfl⟩⟩
  by_cases h18 : 18 < Dg
  · exact ftoa_dec x E M neg hb hE1 X Mt hsp hX0 hX1 hMtl hM1 prec ex Dg hp2 hp1 eX hDg h18
  by_cases h0 : 0 < Dg
  · exact fixSome x E M neg hb hE1 X Mt hsp hX0 hX1 hMtl hM1 prec ex Dg hp2 hp1 eX hDg (by omega) h0
  · exact fixNone x E M neg hb hE1 X Mt hsp hX0 hX1 hMtl hM1 prec ex Dg hp2 hp1 eX hDg (by omega)

/-- strconv.FormatFloat(x, 'f', prec, 64). -/
theorem num_ex (x : Nat) (prec : Int) : ∃ s, (x < 18446744073709551616 → -1 ≤ prec → prec ≤ 20 → NumS s ∧ ∀ w, Tabs w → Calls Tryz.prog 79 #[.float .f64 x, .int .u8 102, .int .i64 prec, .int .i64 64] w (Ret (.string ⟨s.toArray⟩) w)) := by
  by_cases h : x < 18446744073709551616 ∧ -1 ≤ prec ∧ prec ≤ 20
  · obtain ⟨s, h1, h2⟩ := ftoa_all x h.1 prec h.2.1 h.2.2
    exact ⟨s, fun _ _ _ => ⟨h1, fun w hT => formatFloat79 x prec s w (formatFloat x prec h.2.1 h.2.2 s h2 w hT)⟩⟩
  · exact ⟨[], fun a b c => absurd ⟨a, b, c⟩ h⟩
/-- The text of a number with so many digits. -/
noncomputable def ff (x : Nat) (prec : Int) : List UInt8 := (num_ex x prec).choose
theorem ff_num {x : Nat} {prec : Int} (hx : x < 18446744073709551616) (h0 : -1 ≤ prec) (h1 : prec ≤ 20) : NumS (ff x prec) := ((num_ex x prec).choose_spec hx h0 h1).1
theorem ff_calls {x : Nat} {prec : Int} (hx : x < 18446744073709551616) (h0 : -1 ≤ prec) (h1 : prec ≤ 20) (w : World) (hT : Tabs w) :
    Calls Tryz.prog 79 #[.float .f64 x, .int .u8 102, .int .i64 prec, .int .i64 64] w (Ret (.string ⟨(ff x prec).toArray⟩) w) := ((num_ex x prec).choose_spec hx h0 h1).2 w hT
end Go.Proofs.YtokmamakmaojpaaGreatDoor

/- B4. -/
namespace Go.Proofs.YtokmamakmaojpaaGreatDoor
open Go.RowKit

def NoDD (s : List UInt8) : Prop := ∀ i : Nat, s[i]? = some 46 → s[i + 1]? ≠ some 46
theorem noDD_none {s : List UInt8} (h : ∀ c ∈ s, c ≠ 46) : NoDD s := fun i hi => absurd rfl (h 46 (List.mem_of_getElem? hi))
theorem noDD_one {a b : List UInt8} (ha : ∀ c ∈ a, c ≠ 46) (hb : ∀ c ∈ b, c ≠ 46) : NoDD (a ++ 46 :: b) := by
  intro i hi hj
  rcases Nat.lt_trichotomy i a.length with h | h | h
  · rw [List.getElem?_append_left h] at hi
    exact ha 46 (List.mem_of_getElem? hi) rfl
  · rw [List.getElem?_append_right (by omega), show i + 1 - a.length = 0 + 1 by omega, List.getElem?_cons_succ] at hj
    exact hb 46 (List.mem_of_getElem? hj) rfl
  · rw [List.getElem?_append_right (by omega), show i - a.length = (i - a.length - 1) + 1 by omega, List.getElem?_cons_succ] at hi
    exact hb 46 (List.mem_of_getElem? hi) rfl
theorem isDig_ne {c : UInt8} (h : isDig c) : c ≠ 46 := fun e => by subst e; exact absurd h.1 (by decide)
theorem rep_ne {n : Nat} {c : UInt8} (h : c ∈ List.replicate n (48 : UInt8)) : c ≠ 46 := by
  rw [List.eq_of_mem_replicate h]
  decide
theorem wholeF_ne {ds : List UInt8} (hd : ∀ c ∈ ds, isDig c) (dp nd : Int) : ∀ c ∈ wholeF ds dp nd, c ≠ 46 := by
  intro c hc
  unfold wholeF at hc
  split at hc
  · rcases List.mem_append.1 hc with h | h
    · exact isDig_ne (hd c (List.mem_of_mem_take h))
    · exact rep_ne h
  · rw [List.mem_singleton.1 hc]
    decide
theorem fracDigits_ne {ds : List UInt8} (hd : ∀ c ∈ ds, isDig c) (dp nd prec : Int) : ∀ c ∈ fracDigits ds dp nd prec, c ≠ 46 := by
  intro c hc
  unfold fracDigits at hc
  rcases List.mem_append.1 hc with h | h
  · exact rep_ne h
  · rcases List.mem_append.1 h with h | h
    · exact isDig_ne (hd c (List.mem_of_mem_drop (List.mem_of_mem_take h)))
    · exact rep_ne h
theorem signF_ne (neg : Bool) : ∀ c ∈ signF neg, c ≠ 46 := by
  intro c hc
  cases neg
  · simp [signF] at hc
  · simp [signF] at hc
    subst hc
    decide
theorem fixF_noDD {neg : Bool} {ds : List UInt8} (hd : ∀ c ∈ ds, isDig c) (dp nd prec : Int) : NoDD (fixF neg ds dp nd prec) := by
  have h0 : ∀ c ∈ signF neg ++ wholeF ds dp nd, c ≠ 46 := fun c hc => (List.mem_append.1 hc).elim (signF_ne neg c) (wholeF_ne hd dp nd c)
  unfold fixF fracF
  split
  · rw [← List.append_assoc]
    exact noDD_one h0 (fracDigits_ne hd dp nd prec)
  · rw [List.append_nil]
    exact noDD_none h0
theorem num_noDD {s : List UInt8} (h : NumS s) : NoDD s := by
  rcases h with ⟨neg, ds, dp, nd, prec, rfl, hd, _, _⟩ | rfl | rfl | rfl
  · exact fixF_noDD hd dp nd prec
  all_goals exact noDD_none (by decide)

/-- How many bytes the law's own writer keeps. -/
def keepN (s : List UInt8) : Nat := if 0 < trimC 48 s ∧ s[trimC 48 s - 1]? = some 46 then trimC 48 s - 1 else trimC 48 s
/-- The two ways of trimming are one. -/
theorem trim_twice {s : List UInt8} (h : NoDD s) : (s.take (trimC 48 s)).take (trimC 46 (s.take (trimC 48 s))) = s.take (keepN s) := by
  obtain ⟨n, hn⟩ : ∃ n, trimC 48 s = n := ⟨_, rfl⟩
  have hle := trimC_le 48 s
  rw [hn] at hle
  have hlen : (s.take n).length = n := by rw [List.length_take]; omega
  have hget : ∀ j, j < n → (s.take n)[j]? = s[j]? := fun j hj => by rw [List.getElem?_take, if_pos hj]
  unfold keepN
  rw [hn]
  by_cases hc : 0 < n ∧ s[n - 1]? = some 46
  · rw [if_pos hc]
    have e : n - 1 = trimC 46 (s.take n) := trimC_unique 46 (s.take n) (n - 1) (by omega) (fun j h0 h1 => by
        rw [hlen] at h1
        rw [hget j h1, show j = n - 1 by omega]
        exact hc.2) (by
        by_cases h1 : n - 1 = 0
        · exact Or.inl h1
        · right
          rw [hget _ (by omega)]
          intro h2
          have h3 := h _ h2
          rw [show n - 1 - 1 + 1 = n - 1 by omega] at h3
          exact h3 hc.2)
    rw [← e, List.take_take]
    congr 1
    omega
  · rw [if_neg hc]
    have e : n = trimC 46 (s.take n) := trimC_unique 46 (s.take n) n (by omega) (fun j h0 h1 => by omega) (by
      by_cases h1 : n = 0
      · exact Or.inl h1
      · right
        rw [hget _ (by omega)]
        exact fun h2 => hc ⟨by omega, h2⟩)
    rw [← e, List.take_take, Nat.min_self]
end Go.Proofs.YtokmamakmaojpaaGreatDoor

/- A24. -/
namespace Go.Proofs.YtokmamakmaojpaaGreatDoor
open Go.RowKit

/-- The text of a number with so many digits, trimmed. -/
noncomputable def numT (x : Nat) (d : Int) : List UInt8 := if 0 < d then (ff x d).take (keepN (ff x d)) else ff x d

set_option maxHeartbeats 1000000 in
theorem writeNumber_any (x : Nat) (d : Int) (hx : x < 18446744073709551616) (h0 : -1 ≤ d) (h1 : d ≤ 20) (w : World) (hT : Tabs w) (hlen : (ff x d).length ≤ 100000) :
    Calls Tryz.prog 73 #[.float .f64 x, .int .i64 d] w (Ret (.string ⟨(numT x d).toArray⟩) w) := by
  have HF := Lib.hid (ff_calls hx h0 h1 w hT)
  obtain ⟨s, hs⟩ : ∃ s, ff x d = s := ⟨_, rfl⟩
  have hN : numT x d = if 0 < d then s.take (keepN s) else s := by unfold numT; rw [hs]
  rw [hN]
  rw [hs] at HF hlen
  obtain ⟨S, hS⟩ : ∃ S, (⟨s.toArray⟩ : ByteArray).size = S := ⟨_, rfl⟩
  have hS2 : s.length = S := hS
  have HS2 := Lib.hid hS2
  rw [hS2] at hlen
  have hmx : max (-1) d = d := by omega
  clear hs hN hT hS2
  by_cases hd : 0 < d
  · rw [if_pos hd]
    have hdb : decide (d ≤ 0) = false := by simp; omega
    go_enter Tryz.func73, Tryz.ntmps73
    go_wp2_with (go_at_call 79; refine HF.out.mono ?_; rintro e w1 ⟨rfl, hB⟩; have HB := Lib.hid hB; clear hB)
    go_loopg [6] S (fun g v6 wr => v6 = .int .i64 (g : Int) ∧ wr = w1 ∧ g ≤ S ∧ Hid (∀ j, g ≤ j → j < S → s[j]? = some 48))
    case atStart => exact ⟨by go_num, rfl, Nat.le_refl _, Lib.hid fun j h0 h1 => by omega⟩
    case round =>
      obtain ⟨rfl, rfl, hg, hz⟩ := hrel
      cases gk with
      | zero =>
        have e : 0 = trimC 48 s := trimC_unique 48 s 0 (by omega) (fun j h0 h1 => hz.out j h0 (by rw [← HS2.out]; exact h1)) (Or.inl rfl)
        have ek : keepN s = 0 := by unfold keepN; rw [← e]; simp
        have HE := Lib.hid ek
        clear e ek
        go_wp2_with (fail)
        go_ret
        refine ⟨?_, HB.out⟩
        rw [HE.out]
        rfl
      | succ m =>
        obtain ⟨y, hy⟩ : ∃ y, s[m]? = some y := ⟨_, List.getElem?_eq_getElem (by rw [HS2.out]; omega)⟩
        have hm2 : m < (⟨s.toArray⟩ : ByteArray).size := by rw [hS]; omega
        obtain ⟨u, hu⟩ : ∃ u : Int, (((⟨s.toArray⟩ : ByteArray)[m]'hm2).toNat : Int) = u := ⟨_, rfl⟩
        have hyu : (y.toNat : Int) = u := by
          rw [← hu]
          have : (⟨s.toArray⟩ : ByteArray)[m]'hm2 = y := by
            have h := hy
            rw [List.getElem?_eq_getElem (by rw [HS2.out]; omega)] at h
            exact Option.some.inj h
          rw [this]
        have HY := Lib.hid hy
        have HYU := Lib.hid hyu
        have hgs : ((m + 1 : Nat) : Int) = (m : Int) + 1 := by omega
        rw [hgs]
        clear hy hyu hgs
        by_cases h48 : u = 48
        · have hb : (u == 48) = true := by simpa using h48
          have H48 := Lib.hid h48
          clear h48
          go_wp2_with (fail)
          go_roundg m
          case measure => omega
          case rel =>
            refine ⟨by go_num, rfl, by omega, Lib.hid fun j h0 h1 => ?_⟩
            rcases Nat.eq_or_lt_of_le h0 with e | e
            · subst e
              rw [HY.out]
              exact congrArg some (UInt8.toNat_inj.1 (by have h2 := HYU.out; have h3 := H48.out; have : ((48 : UInt8).toNat : Int) = 48 := rfl; omega))
            · exact hz.out j e h1
        · have hb : (u == 48) = false := beq_false_of_ne h48
          have e : m + 1 = trimC 48 s := trimC_unique 48 s (m + 1) (by rw [HS2.out]; omega) (fun j h0 h1 => hz.out j h0 (by rw [← HS2.out]; exact h1)) (Or.inr fun hx => h48 (by
            rw [Nat.add_sub_cancel, HY.out] at hx
            rw [← HYU.out, Option.some.inj hx]
            rfl))
          by_cases h46 : u = 46
          · have hb2 : (u == 46) = true := by simpa using h46
            have ek : keepN s = m := by
              unfold keepN
              rw [← e, Nat.add_sub_cancel, if_pos ⟨by omega, by
                rw [HY.out]
                exact congrArg some (UInt8.toNat_inj.1 (by have h2 := HYU.out; have : ((46 : UInt8).toNat : Int) = 46 := rfl; omega))⟩]
            have HE := Lib.hid ek
            clear e ek h48 h46
            go_wp2_with (fail)
            go_ret
            refine ⟨?_, HB.out⟩
            rw [HE.out, ← extract_take]
            rfl
          · have hb2 : (u == 46) = false := beq_false_of_ne h46
            have ek : keepN s = m + 1 := by
              unfold keepN
              rw [← e, Nat.add_sub_cancel, if_neg (fun hx => h46 (by
                have h1 := hx.2
                rw [HY.out] at h1
                rw [← HYU.out, Option.some.inj h1]
                rfl))]
            have HE := Lib.hid ek
            clear e ek h48 h46
            go_wp2_with (fail)
            go_ret
            refine ⟨?_, HB.out⟩
            rw [HE.out, ← extract_take]
            rfl
  · rw [if_neg hd]
    have hdb : decide (d ≤ 0) = true := by simp; omega
    go_enter Tryz.func73, Tryz.ntmps73
    go_wp2_with (go_at_call 79; refine HF.out.mono ?_; rintro e w1 ⟨rfl, hB⟩; have HB := Lib.hid hB; clear hB)
    go_ret
    exact ⟨rfl, HB.out⟩
end Go.Proofs.YtokmamakmaojpaaGreatDoor

/- T0. -/
namespace Go.Proofs.YtokmamakmaojpaaGreatDoor
open Go.RowKit

def commaT : List UInt8 := [44, 32]
def emptyT : List UInt8 := [69, 77, 80, 84, 89]
/-- What stands ahead of the number i of a row. -/
def sepT (st i : Nat) : List UInt8 := if i = 0 then [] else if i % st = 0 then commaT else [32]
/-- The first k numbers of a row. -/
noncomputable def numsU (st : Nat) (d : Int) (flat : List Nat) : Nat → List UInt8
  | 0 => []
  | k + 1 => numsU st d flat k ++ sepT st k ++ numT (flat.getD k 0) d
/-- The first n of some texts, with commas. -/
def joinT (f : Nat → List UInt8) : Nat → List UInt8
  | 0 => []
  | k + 1 => joinT f k ++ (if k = 0 then [] else commaT) ++ f k
def inBr (s : List UInt8) : List UInt8 := [40] ++ s ++ [41]
noncomputable def placesT (st : Nat) (d : Int) (flat : List Nat) : List UInt8 := if flat.length = 0 then emptyT else inBr (numsU st d flat flat.length)
/-- A place's text, without brackets. -/
noncomputable def pointT (d : Int) (flat : List Nat) : List UInt8 := if flat.length = 0 then emptyT else numsU 0 d flat flat.length
def seg (flat : List Nat) (a b : Nat) : List Nat := (flat.drop a).take (b - a)
def prevE (start : Nat) (ends : List Int) (k : Nat) : Nat := if k = 0 then start else (ends.getD (k - 1) 0).toNat
def segAt (flat : List Nat) (start : Nat) (ends : List Int) (k : Nat) : List Nat := seg flat (prevE start ends k) (ends.getD k 0).toNat
/-- The rings (or lines) between ends, in brackets. -/
noncomputable def ringsT (st : Nat) (d : Int) (flat : List Nat) (start : Nat) (ends : List Int) : List UInt8 := inBr (joinT (fun k => placesT st d (segAt flat start ends k)) ends.length)
noncomputable def pointsT (d : Int) (flat : List Nat) (ends : List Int) : List UInt8 := inBr (joinT (fun k => pointT d (segAt flat 0 ends k)) ends.length)
/-- Where the part k of several lists of ends begins. -/
def startOf (endss : List (List Int)) : Nat → Nat
  | 0 => 0
  | k + 1 => if (endss.getD k []).length = 0 then startOf endss k else ((endss.getD k []).getD ((endss.getD k []).length - 1) 0).toNat
noncomputable def polyT (st : Nat) (d : Int) (flat : List Nat) (endss : List (List Int)) (k : Nat) : List UInt8 :=
  if (endss.getD k []).length = 0 then emptyT else ringsT st d flat (startOf endss k) (endss.getD k [])
noncomputable def polysT (st : Nat) (d : Int) (flat : List Nat) (endss : List (List Int)) : List UInt8 := inBr (joinT (polyT st d flat endss) endss.length)

theorem joinT_congr {f g : Nat → List UInt8} : ∀ n, (∀ i, i < n → f i = g i) → joinT f n = joinT g n
  | 0, _ => rfl
  | n + 1, h => by
    show joinT f n ++ _ ++ f n = joinT g n ++ _ ++ g n
    rw [joinT_congr n (fun i hi => h i (by omega)), h n (by omega)]
theorem numsU_congr {st : Nat} {d : Int} {a b : List Nat} : ∀ n, (∀ i, i < n → a.getD i 0 = b.getD i 0) → numsU st d a n = numsU st d b n
  | 0, _ => rfl
  | n + 1, h => by
    show numsU st d a n ++ _ ++ _ = numsU st d b n ++ _ ++ _
    rw [numsU_congr n (fun i hi => h i (by omega)), h n (by omega)]
theorem seg_length {flat : List Nat} {a b : Nat} (h0 : a ≤ b) (h : b ≤ flat.length) : (seg flat a b).length = b - a := by
  unfold seg
  rw [List.length_take, List.length_drop]
  omega
theorem seg_getD {flat : List Nat} {a b i : Nat} (hi : i < b - a) : (seg flat a b).getD i 0 = flat.getD (a + i) 0 := by
  unfold seg
  rw [List.getD_eq_getElem?_getD, List.getD_eq_getElem?_getD, List.getElem?_take, if_pos hi, List.getElem?_drop]
/-- A place more of a row. -/
theorem numsU_chunk (st : Nat) (d : Int) (flat : List Nat) (i : Nat) (hi : i % st = 0) : ∀ m, 0 < m → m ≤ st →
    numsU st d flat (i + m) = numsU st d flat i ++ (if i = 0 then [] else commaT) ++ numsU 0 d (seg flat i (i + st)) m
  | 0, h, _ => absurd h (by omega)
  | 1, _, h1 => by
    have e : (seg flat i (i + st)).getD 0 0 = flat.getD i 0 := by rw [seg_getD (by omega), Nat.add_zero]
    show numsU st d flat i ++ sepT st i ++ numT (flat.getD i 0) d = _ ++ _ ++ (numsU 0 d _ 0 ++ sepT 0 0 ++ numT _ d)
    rw [e]
    unfold sepT
    rw [if_pos hi]
    simp [numsU]
  | m + 2, _, h1 => by
    have e : (seg flat i (i + st)).getD (m + 1) 0 = flat.getD (i + (m + 1)) 0 := seg_getD (by omega)
    have ih := numsU_chunk st d flat i hi (m + 1) (by omega) (by omega)
    show numsU st d flat (i + (m + 1)) ++ sepT st (i + (m + 1)) ++ numT (flat.getD (i + (m + 1)) 0) d = _ ++ _ ++ (numsU 0 d _ (m + 1) ++ sepT 0 (m + 1) ++ numT _ d)
    rw [e, ih]
    have h2 : (i + (m + 1)) % st = m + 1 := by
      rw [Nat.add_mod, hi, Nat.zero_add, Nat.mod_mod, Nat.mod_eq_of_lt (by omega)]
    have s1 : sepT st (i + (m + 1)) = [32] := by
      unfold sepT
      rw [if_neg (by omega), if_neg (by omega)]
    have s2 : sepT 0 (m + 1) = [32] := by
      unfold sepT
      rw [if_neg (by omega), if_neg (by rw [Nat.mod_zero]; omega)]
    rw [s1, s2]
    simp only [List.append_assoc]
/-- A row of one place. -/
theorem numsU_one (st : Nat) (d : Int) (flat : List Nat) : ∀ m, m ≤ st → numsU st d flat m = numsU 0 d flat m
  | 0, _ => rfl
  | m + 1, h => by
    show numsU st d flat m ++ sepT st m ++ _ = numsU 0 d flat m ++ sepT 0 m ++ _
    rw [numsU_one st d flat m (by omega)]
    by_cases h0 : m = 0
    · subst h0
      simp [sepT]
    · have s1 : sepT st m = [32] := by
        unfold sepT
        rw [if_neg h0, if_neg (by rw [Nat.mod_eq_of_lt (by omega)]; omega)]
      have s2 : sepT 0 m = [32] := by
        unfold sepT
        rw [if_neg h0, if_neg (by rw [Nat.mod_zero]; omega)]
      rw [s1, s2]

/-- The name of a kind, with the blank behind it. -/
def nameT (k : Int) : List UInt8 :=
  if k = 1 then [80, 79, 73, 78, 84, 32] else if k = 2 ∨ k = 8 then [76, 73, 78, 69, 83, 84, 82, 73, 78, 71, 32] else if k = 3 then [80, 79, 76, 89, 71, 79, 78, 32]
  else if k = 4 then [77, 85, 76, 84, 73, 80, 79, 73, 78, 84, 32] else if k = 5 then [77, 85, 76, 84, 73, 76, 73, 78, 69, 83, 84, 82, 73, 78, 71, 32]
  else if k = 6 then [77, 85, 76, 84, 73, 80, 79, 76, 89, 71, 79, 78, 32] else [71, 69, 79, 77, 69, 84, 82, 89, 67, 79, 76, 76, 69, 67, 84, 73, 79, 78, 32]
/-- The letters of a layout, with the blank behind them. -/
def tagT (l : Int) : List UInt8 := if l = 2 then [90, 32] else if l = 3 then [77, 32] else if l = 4 then [90, 77, 32] else []

def G.kind : G → Int | .mk k .. => k
def G.layout : G → Int | .mk _ l .. => l
def G.srid : G → Int | .mk _ _ s .. => s
def G.flat : G → List Nat | .mk _ _ _ f .. => f
def G.ends : G → List Int | .mk _ _ _ _ e .. => e
def G.endss : G → List (List Int) | .mk _ _ _ _ _ e _ => e
def G.kids : G → List G | .mk _ _ _ _ _ _ k => k

mutual
noncomputable def wktT (d : Int) : G → List UInt8
  | .mk k l s flat ends endss kids =>
    nameT k ++ tagT (layT (.mk k l s flat ends endss kids)) ++
      (if k = 1 ∨ k = 2 ∨ k = 8 then placesT (strideF l).toNat d flat
       else if k = 3 then (if flat.length = 0 then emptyT else ringsT (strideF l).toNat d flat 0 ends)
       else if k = 4 then (if ends.length = 0 then emptyT else pointsT d flat ends)
       else if k = 5 then (if ends.length = 0 then emptyT else ringsT (strideF l).toNat d flat 0 ends)
       else if k = 6 then (if endss.length = 0 then emptyT else polysT (strideF l).toNat d flat endss)
       else (if kids.length = 0 then emptyT else inBr (joinT (fun i => (wktTs d kids).getD i []) kids.length)))
noncomputable def wktTs (d : Int) : List G → List (List UInt8)
  | [] => []
  | g :: gs => wktT d g :: wktTs d gs
end
theorem wktTs_getD (d : Int) : ∀ (l : List G) (i : Nat) (h : i < l.length), (wktTs d l).getD i [] = wktT d l[i]
  | [], i, h => absurd h (by simp)
  | g :: gs, 0, _ => by simp [wktTs]
  | g :: gs, i + 1, h => by
    have := wktTs_getD d gs i (by simpa using h)
    simpa [wktTs] using this
/-- What stands behind the name. -/
noncomputable def bodyT (d : Int) (g : G) : List UInt8 :=
  if g.kind = 1 ∨ g.kind = 2 ∨ g.kind = 8 then placesT (strideF g.layout).toNat d g.flat
  else if g.kind = 3 then (if g.flat.length = 0 then emptyT else ringsT (strideF g.layout).toNat d g.flat 0 g.ends)
  else if g.kind = 4 then (if g.ends.length = 0 then emptyT else pointsT d g.flat g.ends)
  else if g.kind = 5 then (if g.ends.length = 0 then emptyT else ringsT (strideF g.layout).toNat d g.flat 0 g.ends)
  else if g.kind = 6 then (if g.endss.length = 0 then emptyT else polysT (strideF g.layout).toNat d g.flat g.endss)
  else (if g.kids.length = 0 then emptyT else inBr (joinT (fun i => (wktTs d g.kids).getD i []) g.kids.length))
theorem wktT_eq (d : Int) (g : G) : wktT d g = nameT g.kind ++ tagT (layT g) ++ bodyT d g := by
  cases g
  rw [wktT]
  rfl
end Go.Proofs.YtokmamakmaojpaaGreatDoor

/- E0. -/
namespace Go.Proofs.YtokmamakmaojpaaGreatDoor
open Go.RowKit

theorem fracDigits_length (ds : List UInt8) (dp nd prec : Int) : (fracDigits ds dp nd prec).length ≤ prec.toNat := by
  unfold fracDigits
  simp only [List.length_append, List.length_replicate]
  have h1 := List.length_take_le (min (prec - min prec (max 0 (-dp))) (max 0 (nd - (dp + min prec (max 0 (-dp)))))).toNat (ds.drop (dp + min prec (max 0 (-dp))).toNat)
  omega
theorem fixS_length {s : List UInt8} (h : FixS s) : s.length ≤ 2002 := by
  obtain ⟨neg, ds, dp, N, prec, rfl, _, hdp, hpr⟩ := h
  have h1 := signF_length neg
  have h2 := wholeF_length ds dp N hdp
  have h3 : (fracF ds dp N prec).length ≤ 1001 := by
    unfold fracF
    split
    · have := fracDigits_length ds dp N prec
      simp only [List.length_cons]
      omega
    · simp
  unfold fixF
  simp only [List.length_append]
  omega
theorem ff_length {x : Nat} {d : Int} (hx : x < 18446744073709551616) (h0 : -1 ≤ d) (h1 : d ≤ 20) : (ff x d).length ≤ 2002 := by
  rcases ff_num hx h0 h1 with h | h | h | h
  · exact fixS_length h
  all_goals rw [h]; simp
theorem numT_length {x : Nat} {d : Int} (hx : x < 18446744073709551616) (h0 : -1 ≤ d) (h1 : d ≤ 20) : (numT x d).length ≤ 2002 := by
  have := ff_length hx h0 h1
  unfold numT
  split
  · have := List.length_take_le (keepN (ff x d)) (ff x d)
    rw [List.length_take]
    omega
  · exact this

theorem Bld.still {w0 w w' : World} {b : Nat} {s : List UInt8} (h : Bld w0 b s w) (hb : Below w.heap.size w w') : Bld w0 b s w' := by
  have hs := h.below.size
  refine ⟨h.below.trans (hb.mono hs), ?_⟩
  have key : ∀ p, Lib.BuilderAt 62 5 w0.heap.size b p (Lib.byteCells s) w → Lib.BuilderAt 62 5 w0.heap.size b p (Lib.byteCells s) w' := by
    rintro p ⟨h1, v, h2, h3, h4⟩
    refine ⟨h1, v, (hb.block b ?_).trans h2, ownsRow_still h3 hb, h4⟩
    rcases Nat.lt_or_ge b w.heap.size with h' | h'
    · exact h'
    · simp [Array.getElem?_eq_none h'] at h2
  exact h.bld.imp (key _) (key _)
theorem Bld.drewN {w0 w : World} {b : Nat} {s : List UInt8} (h : Bld w0 b s w) (n : Nat) : Bld w0 b s (w.drewN n) := h.still (below_drewN (Below.refl _ _) n)

/-- The encoder, its digits, and the tables of the library, in the world in which the builder was made. -/
structure Enc (w0 : World) (eb : Nat) (d : Int) : Prop where
  tabs : Tabs w0
  lt : eb < w0.heap.size
  cell : w0.cell? ⟨eb, 0, none⟩ = some (.int .i64 d)
  lo : -1 ≤ d
  hi : d ≤ 20
theorem Enc.at_ {w0 w : World} {eb : Nat} {d : Int} (h : Enc w0 eb d) {b : Nat} {s : List UInt8} (hB : Bld w0 b s w) : w.cell? ⟨eb, 0, none⟩ = some (.int .i64 d) := (hB.below.cell (p := ⟨eb, 0, none⟩) h.lt).trans h.cell
end Go.Proofs.YtokmamakmaojpaaGreatDoor

/- E1. -/
namespace Go.Proofs.YtokmamakmaojpaaGreatDoor
open Go.RowKit

theorem numsU_mono (st : Nat) (d : Int) (flat : List Nat) : ∀ n i, i ≤ n → (numsU st d flat i).length ≤ (numsU st d flat n).length
  | 0, i, h => by rw [Nat.le_zero.1 h]; exact Nat.le_refl _
  | n + 1, i, h => by
    rcases Nat.lt_or_ge n i with h1 | h1
    · rw [show i = n + 1 by omega]
      exact Nat.le_refl _
    · have := numsU_mono st d flat n i h1
      show _ ≤ (numsU st d flat n ++ sepT st n ++ numT (flat.getD n 0) d).length
      simp only [List.length_append]
      omega
theorem num_twice {x : Nat} {d : Int} (hx : x < 18446744073709551616) (h0 : -1 ≤ d) (h1 : d ≤ 20) (hd : 0 < d) : numT x d = ((ff x d).take (trimC 48 (ff x d))).take (trimC 46 ((ff x d).take (trimC 48 (ff x d)))) := by
  rw [trim_twice (num_noDD (ff_num hx h0 h1))]
  unfold numT
  rw [if_pos hd]

set_option maxRecDepth 100000 in
set_option maxHeartbeats 4000000 in
theorem writeCoord75 (w0 : World) (eb b : Nat) (d : Int) (hE : Enc w0 eb d) (flat : List Nat) (hf : ∀ x ∈ flat, x < 18446744073709551616) (v : Value) (hv : RowAt w0 v flat.length 1 (fltC flat)) (s : List UInt8) (w : World) (hB : Bld w0 b s w)
    (hl : s.length + (numsU 0 d flat flat.length).length ≤ 140737488355328) :
    Calls Tryz.prog 75 #[.pointer (some ⟨eb, 0, none⟩), .pointer (some ⟨b, 0, none⟩), v] w (EWr w0 b (s ++ numsU 0 d flat flat.length)) := by
  obtain ⟨A, cap, rfl, hl0, hl1, _⟩ := id hv
  unfold maxLen at hl1
  obtain ⟨n, hn⟩ : ∃ n, flat.length = n := ⟨_, rfl⟩
  rw [hn] at hl0 hl hv ⊢
  have HN := Lib.hid hn
  have HF := Lib.hid hf
  have HV := Lib.hid hv
  have HTB := Lib.hid (fun w' (h : Below w0.heap.size w0 w') => hE.tabs.below h)
  have hd0 := hE.lo
  have hd1 := hE.hi
  obtain ⟨T, hT⟩ : ∃ T, numsU 0 d flat n = T := ⟨_, rfl⟩
  have HT := Lib.hid hT
  have HMO := Lib.hid (fun i (h : i ≤ n) => numsU_mono 0 d flat n i h)
  have HL := Lib.hid hl
  rw [hT]
  have HBB := Lib.hid hB
  clear hn hf hv hl hT hB
  go_enter Tryz.func75, Tryz.ntmps75
  go_wp2_with (fail)
  go_loopg [16] n (fun gk v16 wr => ∃ i : Nat, i + gk = n ∧ v16 = .int .i64 i ∧ Bld w0 b (s ++ numsU 0 d flat i) wr)
  case atStart => exact ⟨0, by omega, rfl, by simpa [numsU] using HBB.out⟩
  case round =>
    obtain ⟨i, hi, rfl, hB⟩ := hrel
    by_cases hlt : i < n
    · have HI := Lib.hid hi
      obtain ⟨bb, o, rfl, _, h0⟩ := (HV.out.below (Nat.le_refl _) hB.below).one hlt
      have hx : flat.getD i 0 < 18446744073709551616 := HF.out _ (by
        rw [List.getD_eq_getElem?_getD, List.getElem?_eq_getElem (by rw [HN.out]; exact hlt)]
        exact List.getElem_mem _)
      have hmo := HMO.out (i + 1) (by omega)
      have hL2 := HL.out
      have hsp : numsU 0 d flat (i + 1) = numsU 0 d flat i ++ sepT 0 i ++ numT (flat.getD i 0) d := rfl
      unfold fltC at h0
      obtain ⟨x, hxx⟩ : ∃ x, flat.getD i 0 = x := ⟨_, rfl⟩
      rw [hxx] at h0 hx hsp
      rw [hsp] at hmo
      simp only [List.length_append] at hmo
      have ec0 := hE.at_ hB
      have HB0 := Lib.hid hB
      have HSP := Lib.hid hsp
      have hff := fun w' (h : Tabs w') => ff_calls hx hd0 hd1 w' h
      have hfl := ff_length hx hd0 hd1
      have hnt := fun h => num_twice hx hd0 hd1 h
      have hnz : ¬ 0 < d → numT x d = ff x d := fun h => if_neg h
      obtain ⟨F, hF⟩ : ∃ F, ff x d = F := ⟨_, rfl⟩
      simp only [hF] at hff hfl hnt hnz
      have hz1 := fun w' => zzTrim_any 48 F w' (by omega)
      obtain ⟨F1, hF1⟩ : ∃ F1, F.take (trimC 48 F) = F1 := ⟨_, rfl⟩
      have hfl1 : F1.length ≤ 2002 := by rw [← hF1]; have := List.length_take_le (trimC 48 F) F; rw [List.length_take]; omega
      simp only [hF1] at hz1 hnt
      have hz2 := fun w' => zzTrim_any 46 F1 w' (by omega)
      obtain ⟨F2, hF2⟩ : ∃ F2, F1.take (trimC 46 F1) = F2 := ⟨_, rfl⟩
      simp only [hF2] at hz2 hnt
      have HFF := Lib.hid hff
      have HZ1 := Lib.hid hz1
      have HZ2 := Lib.hid hz2
      clear hi hB hxx hsp hff hF hz1 hF1 hz2 hF2
      by_cases hi0 : i = 0
      · subst hi0
        rw [Nat.add_zero] at h0
        rw [show ((0 : Nat) : Int) = 0 from rfl]
        have hse : sepT 0 0 = [] := rfl
        rw [hse] at hmo HSP
        have HSE := Lib.hid hse
        clear hse
        by_cases hd : 0 < d
        · have hN := hnt hd
          have HSQ : Hid (s ++ numsU 0 d flat 0 ++ F2 = s ++ numsU 0 d flat (0 + 1)) := Lib.hid (by rw [HSP.out, hN]; simp)
          have HWS := Lib.hid (fun w' (h : Bld w0 b (s ++ numsU 0 d flat 0) w') => writeString50 w0 b _ F2 w' h (by rw [hN] at hmo; simp only [List.length_append]; simp at hmo; omega))
          clear hnt hnz hN hmo
          go_wp2_with (first | (go_at_call 79; refine (HFF.out _ (HTB.out _ HB0.out.below)).mono ?_; rintro e w2 ⟨rfl, hb2⟩; have HB2 := Lib.hid (HB0.out.still hb2); have ec2 := hE.at_ HB2.out; clear hb2))
          refine (HZ1.out _).mono ?_
          rintro e w3 ⟨rfl, m3, rfl⟩
          have HB3 := Lib.hid (HB2.out.drewN m3)
          go_wp2_with (fail)
          refine (HZ2.out _).mono ?_
          rintro e w4 ⟨rfl, m4, rfl⟩
          have HB4 := Lib.hid (HB2.out.drewN (m3 + m4))
          go_wp2_with (go_at_call 50; refine (HWS.out _ HB4.out).mono ?_; rintro e w5 ⟨m5, rfl, hB5⟩; have HB5 := Lib.hid hB5; clear hB5)
          go_roundg (n - (0 + 1))
          case measure => have := HI.out; omega
          case rel => exact ⟨0 + 1, by omega, by go_num, by rw [← HSQ.out]; exact HB5.out⟩
        · have hN := hnz hd
          have HSQ : Hid (s ++ numsU 0 d flat 0 ++ F = s ++ numsU 0 d flat (0 + 1)) := Lib.hid (by rw [HSP.out, hN]; simp)
          have HWS := Lib.hid (fun w' (h : Bld w0 b (s ++ numsU 0 d flat 0) w') => writeString50 w0 b _ F w' h (by rw [hN] at hmo; simp only [List.length_append]; simp at hmo; omega))
          clear hnt hnz hN hmo
          go_wp2_with (first | (go_at_call 79; refine (HFF.out _ (HTB.out _ HB0.out.below)).mono ?_; rintro e w2 ⟨rfl, hb2⟩; have HB2 := Lib.hid (HB0.out.still hb2); have ec2 := hE.at_ HB2.out; clear hb2))
          go_wp2_with (go_at_call 50; refine (HWS.out _ HB2.out).mono ?_; rintro e w5 ⟨m5, rfl, hB5⟩; have HB5 := Lib.hid hB5; clear hB5)
          go_roundg (n - (0 + 1))
          case measure => have := HI.out; omega
          case rel => exact ⟨0 + 1, by omega, by go_num, by rw [← HSQ.out]; exact HB5.out⟩
      · have hse : sepT 0 i = [32] := by
          unfold sepT
          rw [if_neg hi0, if_neg (by rw [Nat.mod_zero]; omega)]
        rw [hse] at hmo HSP
        have hip : 0 < i := by omega
        have hib : ((i : Int) == 0) = false := beq_false_of_ne (by omega)
        have HWR := Lib.hid (writeRune66 w0 b _ 32 (by decide) wr HB0.out (by simp only [List.length_append]; simp at hmo; omega))
        clear hse hi0
        by_cases hd : 0 < d
        · have hN := hnt hd
          have HSQ : Hid (s ++ numsU 0 d flat i ++ [32] ++ F2 = s ++ numsU 0 d flat (i + 1)) := Lib.hid (by rw [HSP.out, hN]; simp)
          have HWS := Lib.hid (fun w' (h : Bld w0 b (s ++ numsU 0 d flat i ++ [32]) w') => writeString50 w0 b _ F2 w' h (by rw [hN] at hmo; simp only [List.length_append]; simp at hmo ⊢; omega))
          clear hnt hnz hN hmo
          go_wp2_with (first | (go_at_call 66; refine (HWR.out).mono ?_; rintro e w1 ⟨m1, rfl, hB1⟩; have HB1 := Lib.hid hB1; have ec1 := hE.at_ hB1; clear hB1) | (go_at_call 79; refine (HFF.out _ (HTB.out _ HB1.out.below)).mono ?_; rintro e w2 ⟨rfl, hb2⟩; have HB2 := Lib.hid (HB1.out.still hb2); have ec2 := hE.at_ HB2.out; clear hb2))
          refine (HZ1.out _).mono ?_
          rintro e w3 ⟨rfl, m3, rfl⟩
          have HB3 := Lib.hid (HB2.out.drewN m3)
          go_wp2_with (fail)
          refine (HZ2.out _).mono ?_
          rintro e w4 ⟨rfl, m4, rfl⟩
          have HB4 := Lib.hid (HB2.out.drewN (m3 + m4))
          go_wp2_with (go_at_call 50; refine (HWS.out _ HB4.out).mono ?_; rintro e w5 ⟨m5, rfl, hB5⟩; have HB5 := Lib.hid hB5; clear hB5)
          go_roundg (n - (i + 1))
          case measure => have := HI.out; omega
          case rel => exact ⟨i + 1, by omega, by go_num, by rw [← HSQ.out]; exact HB5.out⟩
        · have hN := hnz hd
          have HSQ : Hid (s ++ numsU 0 d flat i ++ [32] ++ F = s ++ numsU 0 d flat (i + 1)) := Lib.hid (by rw [HSP.out, hN]; simp)
          have HWS := Lib.hid (fun w' (h : Bld w0 b (s ++ numsU 0 d flat i ++ [32]) w') => writeString50 w0 b _ F w' h (by rw [hN] at hmo; simp only [List.length_append]; simp at hmo ⊢; omega))
          clear hnt hnz hN hmo
          go_wp2_with (first | (go_at_call 66; refine (HWR.out).mono ?_; rintro e w1 ⟨m1, rfl, hB1⟩; have HB1 := Lib.hid hB1; have ec1 := hE.at_ hB1; clear hB1) | (go_at_call 79; refine (HFF.out _ (HTB.out _ HB1.out.below)).mono ?_; rintro e w2 ⟨rfl, hb2⟩; have HB2 := Lib.hid (HB1.out.still hb2); have ec2 := hE.at_ HB2.out; clear hb2))
          go_wp2_with (go_at_call 50; refine (HWS.out _ HB2.out).mono ?_; rintro e w5 ⟨m5, rfl, hB5⟩; have HB5 := Lib.hid hB5; clear hB5)
          go_roundg (n - (i + 1))
          case measure => have := HI.out; omega
          case rel => exact ⟨i + 1, by omega, by go_num, by rw [← HSQ.out]; exact HB5.out⟩
    · have ei : i = n := by omega
      subst ei
      have HB0 : Hid (Bld w0 b (s ++ T) wr) := Lib.hid (by rw [← HT.out]; exact hB)
      clear hB hi
      go_wp2_with (fail)
      go_ret
      exact ⟨rfl, HB0.out⟩
end Go.Proofs.YtokmamakmaojpaaGreatDoor

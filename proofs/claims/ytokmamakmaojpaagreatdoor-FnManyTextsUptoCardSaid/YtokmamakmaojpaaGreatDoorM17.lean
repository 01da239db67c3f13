/-
  V3. The guards: small geometries; ends.
  V4. The guards: ends.
-/
import Derived.Test.YtokmamakmaojpaaGreatDoorM12
import Derived.Deep.Cut
import Derived.Deep.CutBlock
import Derived.Deep.CutRange
set_option linter.unusedVariables false
set_option linter.unusedSimpArgs false
/- V3. -/
namespace Go.Proofs.YtokmamakmaojpaaGreatDoor
open Go.RowKit

/-- A slice of geometries. -/
def AllAt (w : World) (v : Value) (l : List G) : Prop := ∃ kc : Nat → Nat → Value, RowAt w v l.length 7 kc ∧ ∀ i (hi : i < l.length), GAt w (kc i) l[i]
theorem AllAt.below {w w' : World} {v : Value} {l : List G} {B : Nat} (h : AllAt w v l) (hB : w.heap.size ≤ B) (hb : Below B w w') : AllAt w' v l := by
  obtain ⟨kc, h1, h2⟩ := h
  exact ⟨kc, h1.below hB hb, fun i hi => (h2 i hi).stays hB hb⟩
theorem layBs_take (m : Int) (l : List G) : ∀ i (h : i < l.length), layBs m (l.take i) = true → layB m l[i] = true → layBs m (l.take (i + 1)) = true := by
  induction l with
  | nil => intro i h; exact absurd h (by simp)
  | cons a r ih =>
    intro i h h1 h2
    cases i with
    | zero =>
      simp only [List.take_succ_cons, List.take_zero, layBs, Bool.and_true]
      exact h2
    | succ i =>
      simp only [List.take_succ_cons, layBs, Bool.and_eq_true] at h1 ⊢
      exact ⟨h1.1, ih i (by simpa using h) h1.2 h2⟩

/-- What fmSmall's yes means. -/
def SmallRet (l : List G) (w : World) (e : Ending) (w' : World) : Prop := ∃ b, e = .returned (.bool b) ∧ (b = true → wgts l ≤ 2000 ∧ layBs 9 l = true) ∧ Below w.heap.size w w'

set_option maxHeartbeats 1000000 in
theorem fmSmall8 (l : List G) (hW : wgts l ≤ 2097152) (v : Value) (w : World) (hl : AllAt w v l) : Calls Tryz.prog 8 #[v] w (SmallRet l w) := by
  obtain ⟨kc, hk, hkids⟩ := hl
  obtain ⟨A, cap, rfl, hl0, hl1, _⟩ := id hk
  unfold maxLen at hl1
  have HKID := Lib.hid hkids
  have HY := Lib.hid (fun i => wgts_take_le l i)
  obtain ⟨n, hn⟩ : ∃ n, l.length = n := ⟨_, rfl⟩
  rw [hn] at hl0 hk ⊢
  have HN := Lib.hid hn
  have HK := Lib.hid hk
  have HW := Lib.hid hW
  clear hkids hk hn hW
  go_enter Tryz.func8, Tryz.ntmps8
  go_wp2_with (fail)
  go_loopg [3, 8] n (fun gk v3 v8 wr => ∃ i : Nat, i + gk = n ∧ v8 = .int .i64 i ∧ Below w.heap.size w wr ∧ ∃ a : Nat, v3 = .int .i64 a ∧ a ≤ 2000 ∧ Hid (a + wgts (l.take i) = 2000) ∧ Hid (layBs 9 (l.take i) = true))
  case atStart => exact ⟨0, by omega, rfl, Below.refl _ _, 2000, rfl, by omega, Lib.hid (by simp [wgts]), Lib.hid rfl⟩
  case round =>
    obtain ⟨i, hi, rfl, hB, a, rfl, ha, hs, hly⟩ := hrel
    by_cases hlt : i < n
    · have HI := Lib.hid hi
      have hD := wgts_take l i (by rw [HN.out]; exact hlt)
      have hwk : wgt (l[i]'(by rw [HN.out]; exact hlt)) ≤ 2097152 := by have := HY.out (i + 1); have := HW.out; omega
      have HLT := Lib.hid (layBs_take 9 l i (by rw [HN.out]; exact hlt) hly.out)
      have hR := fun (c : Nat → Value) (w' : World) (h : GAt w' c (l[i]'(by rw [HN.out]; exact hlt))) => (And.intro (weight19 (l[i]'(by rw [HN.out]; exact hlt)) hwk a (by omega) (by omega) c w' h) (fmLayouts5 9 (by omega) (by omega) (l[i]'(by rw [HN.out]; exact hlt)) c w' h))
      obtain ⟨x, hx⟩ : ∃ x, wgt (l[i]'(by rw [HN.out]; exact hlt)) = x := ⟨_, rfl⟩
      obtain ⟨r, hr⟩ : ∃ r, layB 9 (l[i]'(by rw [HN.out]; exact hlt)) = r := ⟨_, rfl⟩
      have HR := Lib.hid hr
      rw [hx] at hD hwk
      simp only [hx, hr] at hR
      obtain ⟨b, o, k', l', s', A3', n3, d3, A4', n4, d4, A5', n5, d5, A6', n6, d6, rfl, hb, h0, h1, h2, h3, h4, h5, h6, HC⟩ :=
        kid_at hB HK.out hlt (HKID.out i (by rw [HN.out]; exact hlt)) (R := fun v w' => Calls Tryz.prog 19 #[v, .int .i64 a] w' (WRet x a w') ∧ Calls Tryz.prog 5 #[v, .int .i64 9] w' (Ret (.bool r) w')) hR
      have HSZ : Hid (w.heap.size ≤ wr.heap.size) := Lib.hid (by simpa using hB.size)
      have HB := Lib.hid hB
      have HD := Lib.hid hD
      clear hi hB hR hD hx hr
      go_upto_region 6 with (go_at_call 19; refine (HC.out _ (HB.out.alloc HB.out.size _)).1.mono ?_; rintro e w1 ⟨y, rfl, hy, hym, hB1⟩; have HB1 := Lib.hid hB1; have HYM := Lib.hid hym; clear hB1 hym)
      obtain ⟨g0, g1, g2, g3, g4, g5, g6⟩ := box_cells HB1.out
      have HBB : Hid (Below w.heap.size w w1) := Lib.hid ((HB.out.alloc HSZ.out _).trans (HB1.out.mono (by simp; have := HSZ.out; omega)))
      clear HB1
      by_cases hneg : (a : Int) - y < 0
      · go_wp2_with (fail)
        go_ret
        exact ⟨false, rfl, (fun h => by simp at h), HBB.out⟩
      · have hya : y ≤ a := by omega
        have HXY : Hid (y = x) := Lib.hid (HYM.out (by omega))
        obtain ⟨a', ha'⟩ : ∃ a' : Nat, (a : Int) - y = a' := ⟨a - y, by omega⟩
        have HA' : Hid (a' + y = a) := Lib.hid (by omega)
        have ha2 : a' ≤ 2000 := by omega
        rw [ha'] at hneg ⊢
        clear ha' hya hneg
        cases r with
        | false =>
          go_wp2_with (go_at_call 5; refine (HC.out _ HBB.out).2.mono ?_; rintro e w2 ⟨rfl, hB2⟩; have HB2 := Lib.hid hB2; clear hB2)
          go_ret
          exact ⟨false, rfl, (fun h => by simp at h), HBB.out.trans (HB2.out.mono HBB.out.size)⟩
        | true =>
          go_wp2_with (go_at_call 5; refine (HC.out _ HBB.out).2.mono ?_; rintro e w2 ⟨rfl, hB2⟩; have HB2 := Lib.hid hB2; clear hB2)
          go_roundg (n - (i + 1))
          case measure => have := HI.out; omega
          case rel =>
            exact ⟨i + 1, by omega, by go_num, HBB.out.trans (HB2.out.mono HBB.out.size), a', by go_num, ha2, Lib.hid (by have := hs.out; have := HA'.out; have := HXY.out; rw [HD.out]; omega), Lib.hid (HLT.out HR.out)⟩
    · have ei : i = n := by omega
      subst ei
      have HLL : Hid (wgts l ≤ 2000 ∧ layBs 9 l = true) := Lib.hid (by
        have h1 := hs.out
        have h2 := hly.out
        rw [← HN.out, List.take_length] at h1 h2
        exact ⟨by omega, h2⟩)
      have HB := Lib.hid hB
      clear hB hs hly hi
      go_wp2_with (fail)
      go_ret
      exact ⟨true, rfl, fun _ => HLL.out, HB.out⟩
end Go.Proofs.YtokmamakmaojpaaGreatDoor

/- V4. -/
namespace Go.Proofs.YtokmamakmaojpaaGreatDoor
open Go.RowKit

/-- What goodEnds answers. -/
def gends (st : Int) (single : Bool) : Int → List Int → Int × Bool
  | a, [] => (a, true)
  | a, e :: es => if e < a ∨ (e - a) % st ≠ 0 ∨ (single = true ∧ st < e - a) then (a, false) else gends st single e es
theorem gends_no {st : Int} {single : Bool} {a e : Int} {es : List Int} (h : e < a ∨ (e - a) % st ≠ 0 ∨ (single = true ∧ st < e - a)) : gends st single a (e :: es) = (a, false) := if_pos h
theorem gends_yes {st : Int} {single : Bool} {a e : Int} {es : List Int} (h : ¬ (e < a ∨ (e - a) % st ≠ 0 ∨ (single = true ∧ st < e - a))) : gends st single a (e :: es) = gends st single e es := if_neg h
theorem gends_rng (st : Int) (single : Bool) : ∀ (es : List Int) (a : Int), (∀ e ∈ es, RngI e) → 0 ≤ a → a ≤ 9223372036854775807 → 0 ≤ (gends st single a es).1 ∧ (gends st single a es).1 ≤ 9223372036854775807
  | [], a, _, h0, h1 => ⟨h0, h1⟩
  | e :: es, a, h, h0, h1 => by
    unfold gends
    split
    · exact ⟨h0, h1⟩
    · have := h e (by simp)
      unfold RngI at this
      exact gends_rng st single es e (fun x hx => h x (by simp [hx])) (by omega) (by omega)
/-- A call of two results that leaves the world. -/
def Same2 (v u : Value) (w : World) (e : Ending) (w' : World) : Prop := e = .returned (.tuple #[v, u]) ∧ w = w'

set_option maxHeartbeats 1000000 in
theorem goodEnds20 (ends : List Int) (hE : ∀ e ∈ ends, RngI e) (a0 st : Int) (single : Bool) (ha0 : 0 ≤ a0) (ha1 : a0 ≤ 9223372036854775807) (hs0 : 2 ≤ st) (hs1 : st ≤ 9) (v : Value) (w : World) (hv : RowAt w v ends.length 1 (intC ends)) :
    Calls Tryz.prog 20 #[v, .int .i64 a0, .int .i64 st, .bool single] w (Same2 (.int .i64 (gends st single a0 ends).1) (.bool (gends st single a0 ends).2) w) := by
  obtain ⟨A, cap, rfl, hl0, hl1, hrow⟩ := hv
  unfold maxLen at hl1
  have HE := Lib.hid hE
  have HROW := Lib.hid hrow
  obtain ⟨n, hn⟩ : ∃ n, ends.length = n := ⟨_, rfl⟩
  rw [hn] at hl0 ⊢
  have HN := Lib.hid hn
  obtain ⟨P, hP⟩ : ∃ P, gends st single a0 ends = P := ⟨_, rfl⟩
  have HP := Lib.hid hP
  rw [hP]
  clear hE hrow hn hP
  go_enter Tryz.func20, Tryz.ntmps20
  go_wp2_with (fail)
  go_loopg [1, 14] n (fun gk v1 v14 wr => ∃ i : Nat, i + gk = n ∧ v14 = .int .i64 i ∧ w = wr ∧ ∃ a : Int, v1 = .int .i64 a ∧ 0 ≤ a ∧ a ≤ 9223372036854775807 ∧ Hid (P = gends st single a (ends.drop i)))
  case atStart => exact ⟨0, by omega, rfl, rfl, a0, rfl, ha0, ha1, Lib.hid HP.out.symm⟩
  case round =>
    obtain ⟨i, hi, rfl, rfl, a, rfl, hb0, hb1, hG⟩ := hrel
    by_cases hlt : i < n
    · have HI := Lib.hid hi
      obtain ⟨b, o, rfl, _, hc⟩ := HROW.out (by rw [HN.out]; omega)
      have h0 := hc i 0 (by rw [HN.out]; exact hlt) (by omega)
      rw [Nat.mul_one, Nat.add_zero] at h0
      have hd : ends.drop i = ends.getD i 0 :: ends.drop (i + 1) := by
        rw [List.drop_eq_getElem_cons (by rw [HN.out]; exact hlt), List.getD_eq_getElem?_getD, List.getElem?_eq_getElem (by rw [HN.out]; exact hlt)]
        rfl
      have hrg : RngI (ends.getD i 0) := HE.out _ (by
        rw [List.getD_eq_getElem?_getD, List.getElem?_eq_getElem (by rw [HN.out]; exact hlt)]
        exact List.getElem_mem _)
      unfold intC at h0
      obtain ⟨e, he⟩ : ∃ e, ends.getD i 0 = e := ⟨_, rfl⟩
      rw [he] at hd hrg h0
      obtain ⟨hr0, hr1⟩ := hrg
      have HD := Lib.hid hd
      clear hi hc hd he
      by_cases hlo : e < a
      · have HPN : Hid (P = (a, false)) := Lib.hid (by rw [hG.out, HD.out]; exact gends_no (Or.inl hlo))
        go_wp2_with (fail)
        go_ret2
        exact ⟨by rw [HPN.out]; rfl, rfl⟩
      · obtain ⟨x, hx⟩ : ∃ x, ((e - a) % st != 0) = x := ⟨_, rfl⟩
        cases x with
        | true =>
          have HPN : Hid (P = (a, false)) := Lib.hid (by rw [hG.out, HD.out]; exact gends_no (Or.inr (Or.inl (by simpa using hx))))
          go_wp2_with (fail)
          go_ret2
          exact ⟨by rw [HPN.out]; rfl, rfl⟩
        | false =>
          have hm : (e - a) % st = 0 := by simpa using hx
          have HM := Lib.hid hm
          clear hm
          cases single with
          | false =>
            go_wp2_with (fail)
            go_roundg (n - (i + 1))
            case measure => have := HI.out; omega
            case rel => exact ⟨i + 1, by omega, by go_num, rfl, e, rfl, by omega, by omega, Lib.hid (by rw [hG.out, HD.out]; exact gends_yes (by have := HM.out; simp; omega))⟩
          | true =>
            by_cases hst : st < e - a
            · have HPN : Hid (P = (a, false)) := Lib.hid (by rw [hG.out, HD.out]; exact gends_no (Or.inr (Or.inr ⟨rfl, hst⟩)))
              go_wp2_with (fail)
              go_ret2
              exact ⟨by rw [HPN.out]; rfl, rfl⟩
            · go_wp2_with (fail)
              go_roundg (n - (i + 1))
              case measure => have := HI.out; omega
              case rel => exact ⟨i + 1, by omega, by go_num, rfl, e, rfl, by omega, by omega, Lib.hid (by rw [hG.out, HD.out]; exact gends_yes (by have := HM.out; simp; omega))⟩
    · have ei : i = n := by omega
      subst ei
      have HPN : Hid (P = (a, true)) := Lib.hid (by rw [hG.out, ← HN.out, List.drop_length]; rfl)
      clear hG hi
      go_wp2_with (fail)
      go_ret2
      exact ⟨by rw [HPN.out]; rfl, rfl⟩
end Go.Proofs.YtokmamakmaojpaaGreatDoor

/-
  Shift of internal/strconv's decimal.
-/
import Derived.Test.YtokmamakmaojpaaGreatDoorM09
set_option linter.unusedVariables false
set_option linter.unusedSimpArgs false
namespace Go.Proofs.YtokmamakmaojpaaGreatDoor
open Go.RowKit

/-- What a shift leaves: the memory but block b. -/
def ShiftPost (b : Nat) (l : List UInt8) (dp : Int) (tr : Bool) (w : World) (e : Ending) (w' : World) : Prop := e = .returned (.tuple #[]) ∧ Dec b l dp tr w' ∧ Kp b w w'

theorem leftMany : ∀ (n : Nat) (l : List UInt8) (dp : Int) (tr : Bool), Good l → -2000 ≤ dp → dp + 19 * (n : Int) ≤ 2000 →
    ∃ (f : Nat → List UInt8 × Int × Bool), f 0 = (l, dp, tr) ∧ (∀ i, i ≤ n → Good (f i).1 ∧ dp ≤ (f i).2.1 ∧ (f i).2.1 ≤ dp + 19 * (i : Int)) ∧
      ∀ i, i < n → ∀ b w, Tabs w → Dec b (f i).1 (f i).2.1 (f i).2.2 w → Calls Tryz.prog 117 #[.pointer (some ⟨b, 0, none⟩), .int .u64 60] w (ShiftPost b (f (i + 1)).1 (f (i + 1)).2.1 (f (i + 1)).2.2 w)
  | 0, l, dp, tr, hl, h0, h1 => ⟨fun _ => (l, dp, tr), rfl, fun i hi => ⟨hl, Int.le_refl _, by show dp ≤ _; omega⟩, fun i hi => by omega⟩
  | n + 1, l, dp, tr, hl, h0, h1 => by
    obtain ⟨l', dp', tr', ⟨g1, g2, g3⟩, hc⟩ := leftShift_ex l dp tr 60 hl (by omega) (by omega) (by omega) (by omega)
    obtain ⟨f, e0, e1, e2⟩ := leftMany n l' dp' tr' g1 (by omega) (by omega)
    refine ⟨fun i => match i with | 0 => (l, dp, tr) | j + 1 => f j, rfl, fun i hi => ?_, fun i hi b w hT hD => ?_⟩
    · cases i with
      | zero => exact ⟨hl, Int.le_refl _, by show dp ≤ _; omega⟩
      | succ j =>
        have := e1 j (by omega)
        exact ⟨this.1, by show dp ≤ (f j).2.1; omega, by show (f j).2.1 ≤ _; omega⟩
    · cases i with
      | zero =>
        have := hc b w hT hD
        show Calls _ _ _ _ (ShiftPost b (f 0).1 (f 0).2.1 (f 0).2.2 w)
        rw [e0]
        exact this
      | succ j => exact e2 j (by omega) b w hT hD
theorem rightMany : ∀ (n : Nat) (l : List UInt8) (dp : Int) (tr : Bool), Good l → -2000 ≤ dp - 19 * (n : Int) → dp ≤ 2000 →
    ∃ (f : Nat → List UInt8 × Int × Bool), f 0 = (l, dp, tr) ∧ (∀ i, i ≤ n → Good (f i).1 ∧ dp - 19 * (i : Int) ≤ (f i).2.1 ∧ (f i).2.1 ≤ dp) ∧
      ∀ i, i < n → ∀ b w, Dec b (f i).1 (f i).2.1 (f i).2.2 w → Calls Tryz.prog 118 #[.pointer (some ⟨b, 0, none⟩), .int .u64 60] w (ShiftPost b (f (i + 1)).1 (f (i + 1)).2.1 (f (i + 1)).2.2 w)
  | 0, l, dp, tr, hl, h0, h1 => ⟨fun _ => (l, dp, tr), rfl, fun i hi => ⟨hl, by show _ ≤ dp; omega, Int.le_refl _⟩, fun i hi => by omega⟩
  | n + 1, l, dp, tr, hl, h0, h1 => by
    obtain ⟨l', dp', tr', ⟨g1, g2, g3⟩, hc⟩ := rightShift_ex l dp tr 60 hl (by omega) (by omega) (by omega) (by omega)
    obtain ⟨f, e0, e1, e2⟩ := rightMany n l' dp' tr' g1 (by omega) (by omega)
    refine ⟨fun i => match i with | 0 => (l, dp, tr) | j + 1 => f j, rfl, fun i hi => ?_, fun i hi b w hD => ?_⟩
    · cases i with
      | zero => exact ⟨hl, by show _ ≤ dp; omega, Int.le_refl _⟩
      | succ j =>
        have := e1 j (by omega)
        exact ⟨this.1, by show _ ≤ (f j).2.1; omega, by show (f j).2.1 ≤ _; omega⟩
    · cases i with
      | zero =>
        have := hc b w hD
        show Calls _ _ _ _ (ShiftPost b (f 0).1 (f 0).2.1 (f 0).2.2 w)
        rw [e0]
        exact this
      | succ j => exact e2 j (by omega) b w hD

theorem Kp.tabs {b : Nat} {w0 w w' : World} (h : Kp b w w') (h0 : Tabs w0) (hB : Below w0.heap.size w0 w) (hb : w0.heap.size ≤ b) : Tabs w' := by
  refine h0.below (hB.trans (h.below w0.heap.size hb hB.size))

/-- Shift by nothing. -/
theorem shift_zero (l : List UInt8) (dp : Int) (tr : Bool) (hl : Good l) (b : Nat) (w : World) (h : Dec b l dp tr w) :
    Calls Tryz.prog 98 #[.pointer (some ⟨b, 0, none⟩), .int .i64 0] w (ShiftPost b l dp tr w) := by
  have hp := hl.pos
  have H := Lib.hid h
  obtain ⟨d, hD, _⟩ := h
  have cn := hD.nd
  have hne : ((l.length : Int) == 0) = false := beq_false_of_ne (by omega)
  clear hD
  go_enter Tryz.func98, Tryz.ntmps98
  go_wp2_with (fail)
  go_end0
  exact ⟨rfl, H.out, Kp.refl _ _⟩

set_option maxHeartbeats 1000000 in
/-- Shift to the left, by 60 q + s. -/
theorem shift_left (l : List UInt8) (dp : Int) (tr : Bool) (hl : Good l) (k q s : Nat) (hk : k = 60 * q + s) (hs0 : 1 ≤ s) (hs : s ≤ 60) (hq : q ≤ 30) (hdp0 : -1000 ≤ dp) (hdp1 : dp ≤ 1000) :
    ∃ l' dp' tr', (Good l' ∧ dp ≤ dp' ∧ dp' ≤ dp + 19 * ((q : Int) + 1)) ∧ ∀ b w0 w, Tabs w0 → Below w0.heap.size w0 w → w0.heap.size ≤ b → Dec b l dp tr w →
      Calls Tryz.prog 98 #[.pointer (some ⟨b, 0, none⟩), .int .i64 k] w (ShiftPost b l' dp' tr' w) := by
  obtain ⟨f, e0, e1, e2⟩ := leftMany q l dp tr hl (by omega) (by omega)
  have hg := e1 q (Nat.le_refl _)
  obtain ⟨l', dp', tr', ⟨g1, g2, g3⟩, hc⟩ := leftShift_ex (f q).1 (f q).2.1 (f q).2.2 s hg.1 hs0 hs (by omega) (by omega)
  refine ⟨l', dp', tr', ⟨g1, by omega, by omega⟩, fun b w0 w hT0 hB hb h => ?_⟩
  have HTT : Hid (∀ w', Kp b w w' → Tabs w') := Lib.hid (fun w' h => h.tabs hT0 hB hb)
  have HE := Lib.hid e2
  have HC := Lib.hid hc
  have h0 : Dec b (f 0).1 (f 0).2.1 (f 0).2.2 w := by rw [e0]; exact h
  have H0 := Lib.hid h0
  have hp := hl.pos
  obtain ⟨d, hD, _⟩ := h
  have cn := hD.nd
  have hne : ((l.length : Int) == 0) = false := beq_false_of_ne (by omega)
  clear hD e2 hc h0 e1 e0 hT0 hB hg
  obtain ⟨kk, hkk⟩ : ∃ kk : Int, (k : Int) = kk := ⟨_, rfl⟩
  rw [hkk]
  have hk0 : decide (0 < kk) = true := by simp; omega
  have hkl : kk ≤ 2000 := by omega
  go_enter Tryz.func98, Tryz.ntmps98
  go_wp2_with (fail)
  go_loopg [1] q (fun g v1 wr => v1 = .int .i64 ((60 * g + s : Nat) : Int) ∧ g ≤ q ∧ Kp b w wr ∧ Dec b (f (q - g)).1 (f (q - g)).2.1 (f (q - g)).2.2 wr)
  case atStart => exact ⟨by rw [← hkk, hk], Nat.le_refl _, Kp.refl _ _, by rw [Nat.sub_self]; exact H0.out⟩
  case round =>
    obtain ⟨rfl, hg, hK, hD⟩ := hrel
    have HD := Lib.hid hD
    have HT := Lib.hid (HTT.out wr hK)
    have HK := Lib.hid hK
    clear hD hK
    obtain ⟨v, hv⟩ : ∃ v : Nat, 60 * gk + s = v := ⟨_, rfl⟩
    rw [hv]
    cases gk with
    | zero =>
      obtain rfl : v = s := by omega
      rw [Nat.sub_zero] at HD
      have hgt : decide ((60 : Int) < (v : Int)) = false := by simp; omega
      go_wp2_with (go_at_call 117; refine (HC.out b wr HT.out HD.out).mono ?_; rintro e w' ⟨rfl, h3, h4⟩; have H3 := Lib.hid h3; have H4 := Lib.hid h4; clear h3 h4)
      go_end0
      exact ⟨rfl, H3.out, HK.out.trans H4.out⟩
    | succ g =>
      have hgt : decide ((60 : Int) < (v : Int)) = true := by simp; omega
      have hvl : v ≤ 2000 := by omega
      go_wp2_with (go_at_call 117; refine (HE.out (q - (g + 1)) (by omega) b wr HT.out HD.out).mono ?_; rintro e w' ⟨rfl, h3, h4⟩; have H3 := Lib.hid h3; have H4 := Lib.hid h4; clear h3 h4)
      go_roundg g
      case measure => omega
      case rel =>
        rw [show q - g = q - (g + 1) + 1 by omega]
        exact ⟨by go_num, by omega, HK.out.trans H4.out, H3.out⟩

set_option maxHeartbeats 1000000 in
/-- Shift to the right, by 60 q + s. -/
theorem shift_right (l : List UInt8) (dp : Int) (tr : Bool) (hl : Good l) (k q s : Nat) (hk : k = 60 * q + s) (hs0 : 1 ≤ s) (hs : s ≤ 60) (hq : q ≤ 30) (hdp0 : -1000 ≤ dp) (hdp1 : dp ≤ 1000) :
    ∃ l' dp' tr', (Good l' ∧ dp - 19 * ((q : Int) + 1) ≤ dp' ∧ dp' ≤ dp) ∧ ∀ b w, Dec b l dp tr w →
      Calls Tryz.prog 98 #[.pointer (some ⟨b, 0, none⟩), .int .i64 (-(k : Int))] w (ShiftPost b l' dp' tr' w) := by
  obtain ⟨f, e0, e1, e2⟩ := rightMany q l dp tr hl (by omega) (by omega)
  have hg := e1 q (Nat.le_refl _)
  obtain ⟨l', dp', tr', ⟨g1, g2, g3⟩, hc⟩ := rightShift_ex (f q).1 (f q).2.1 (f q).2.2 s hg.1 hs0 hs (by omega) (by omega)
  refine ⟨l', dp', tr', ⟨g1, by omega, by omega⟩, fun b w h => ?_⟩
  have HE := Lib.hid e2
  have HC := Lib.hid hc
  have h0 : Dec b (f 0).1 (f 0).2.1 (f 0).2.2 w := by rw [e0]; exact h
  have H0 := Lib.hid h0
  have hp := hl.pos
  obtain ⟨d, hD, _⟩ := h
  have cn := hD.nd
  have hne : ((l.length : Int) == 0) = false := beq_false_of_ne (by omega)
  clear hD e2 hc h0 e1 e0 hg
  obtain ⟨kk, hkk⟩ : ∃ kk : Int, -(k : Int) = kk := ⟨_, rfl⟩
  rw [hkk]
  have hk0 : decide (0 < kk) = false := by simp; omega
  have hk1 : decide (kk < 0) = true := by simp; omega
  have hkl : -2000 ≤ kk := by omega
  go_enter Tryz.func98, Tryz.ntmps98
  go_wp2_with (fail)
  go_loopg [1] q (fun g v1 wr => v1 = .int .i64 (-((60 * g + s : Nat) : Int)) ∧ g ≤ q ∧ Kp b w wr ∧ Dec b (f (q - g)).1 (f (q - g)).2.1 (f (q - g)).2.2 wr)
  case atStart => exact ⟨by rw [← hkk, hk], Nat.le_refl _, Kp.refl _ _, by rw [Nat.sub_self]; exact H0.out⟩
  case round =>
    obtain ⟨rfl, hg, hK, hD⟩ := hrel
    have HD := Lib.hid hD
    have HK := Lib.hid hK
    clear hD hK
    obtain ⟨v, hv⟩ : ∃ v : Int, -((60 * gk + s : Nat) : Int) = v := ⟨_, rfl⟩
    rw [hv]
    cases gk with
    | zero =>
      have e : v = -(s : Int) := by omega
      rw [Nat.sub_zero] at HD
      have hgt : decide (v < -60) = false := by simp; omega
      have en : -v = (s : Int) := by omega
      clear e hv
      go_wp2_with (go_at_call 118; refine (HC.out b wr HD.out).mono ?_; rintro e w' ⟨rfl, h3, h4⟩; have H3 := Lib.hid h3; have H4 := Lib.hid h4; clear h3 h4)
      go_end0
      exact ⟨rfl, H3.out, HK.out.trans H4.out⟩
    | succ g =>
      have hgt : decide (v < -60) = true := by simp; omega
      have hvl : -2000 ≤ v := by omega
      go_wp2_with (go_at_call 118; refine (HE.out (q - (g + 1)) (by omega) b wr HD.out).mono ?_; rintro e w' ⟨rfl, h3, h4⟩; have H3 := Lib.hid h3; have H4 := Lib.hid h4; clear h3 h4)
      go_roundg g
      case measure => omega
      case rel =>
        rw [show q - g = q - (g + 1) + 1 by omega]
        exact ⟨by go_num, by omega, HK.out.trans H4.out, H3.out⟩

/-- Shift by e: digits that are none but what l and e tell. -/
theorem shift_ex (l : List UInt8) (dp : Int) (tr : Bool) (hl : Good l) (e : Int) (he0 : -1200 ≤ e) (he1 : e ≤ 1200) (hdp0 : -100 ≤ dp) (hdp1 : dp ≤ 100) :
    ∃ l' dp' tr', (Good l' ∧ -600 ≤ dp' ∧ dp' ≤ 600) ∧ ∀ b w0 w, Tabs w0 → Below w0.heap.size w0 w → w0.heap.size ≤ b → Dec b l dp tr w →
      Calls Tryz.prog 98 #[.pointer (some ⟨b, 0, none⟩), .int .i64 e] w (ShiftPost b l' dp' tr' w) := by
  rcases Int.lt_trichotomy e 0 with h | h | h
  · obtain ⟨k, rfl⟩ : ∃ k : Nat, e = -(k : Int) := ⟨e.natAbs, by omega⟩
    obtain ⟨l', dp', tr', ⟨g1, g2, g3⟩, hc⟩ := shift_right l dp tr hl k ((k - 1) / 60) ((k - 1) % 60 + 1) (by omega) (by omega) (by omega) (by omega) (by omega) (by omega)
    exact ⟨l', dp', tr', ⟨g1, by omega, by omega⟩, fun b w0 w _ _ _ hD => hc b w hD⟩
  · subst h
    exact ⟨l, dp, tr, ⟨hl, by omega, by omega⟩, fun b w0 w _ _ _ hD => shift_zero l dp tr hl b w hD⟩
  · obtain ⟨k, rfl⟩ : ∃ k : Nat, e = (k : Int) := ⟨e.toNat, by omega⟩
    obtain ⟨l', dp', tr', ⟨g1, g2, g3⟩, hc⟩ := shift_left l dp tr hl k ((k - 1) / 60) ((k - 1) % 60 + 1) (by omega) (by omega) (by omega) (by omega) (by omega) (by omega)
    exact ⟨l', dp', tr', ⟨g1, by omega, by omega⟩, fun b w0 w h0 h1 h2 hD => hc b w0 w h0 h1 h2 hD⟩
end Go.Proofs.YtokmamakmaojpaaGreatDoor

/-
  ftoa64 where the digits asked for are few.
-/
import Derived.Test.YtokmamakmaojpaaGreatDoorM14
set_option linter.unusedVariables false
set_option linter.unusedSimpArgs false
namespace Go.Proofs.YtokmamakmaojpaaGreatDoor
open Go.RowKit Go.Sort

theorem buf_nil {b N : Nat} {T : TypeId} {w : World} (h : Buf b N T (fun _ => 0) w) : Buf b N T (fun i => (([] : List UInt8).getD i 0).toNat) w := h

set_option maxRecDepth 100000 in
set_option maxHeartbeats 4000000 in
/-- No digit is asked for. -/
theorem fixNone (x E M : Nat) (neg : Bool) (hb : Bits x E M neg) (hE1 : E < 2047) (X Mt : Nat) (hsp : Split E M X Mt) (hX0 : 1 ≤ X) (hX1 : X ≤ 2046) (hMtl : Mt < 9007199254740992) (hM0 : 0 < Mt)
    (prec ex Dg : Int) (hp0 : 0 ≤ prec) (hp1 : prec ≤ 20) (eX : (X : Int) + -1023 = ex) (hDg : Asked ex prec Dg) (h0 : Dg ≤ 0) :
    ∃ s, FixS s ∧ ∀ B v w, Tabs w → BRow B w v [] w → Calls Tryz.prog 85 #[v, .float .f64 x, .int .u8 102, .int .i64 prec] w
      fun e w' => ∃ v', e = .returned v' ∧ BRow B w v' s w' := by
  refine ⟨fixF neg [] 0 0 prec, ⟨neg, [], 0, 0, prec, rfl, (fun _ h => nomatch h), by omega, by omega⟩, fun B v w hT hR => ?_⟩
  have hD0 : decide (0 < Dg) = false := by simp; omega
  have hr87 := fun w => run87 x w
  have h1 := hb.exp
  have h2 := hb.man
  have h3 := hb.sgn
  have h5 := hb.mtop
  have h6 := hb.all
  have hE2 : ((E : Int) == 2047) = false := beq_false_of_ne (by omega)
  have hM1 : ((Mt : Int) == 0) = false := beq_false_of_ne (by omega)
  have hpn : decide (prec < 0) = false := by simp; omega
  have hD18 : decide (Dg ≤ 18) = true := by simp; omega
  have hexb : ex ≤ 1023 := by omega
  have hexb0 : -1022 ≤ ex := by omega
  have copt := hT.opt
  have hTB := Lib.hid (fun w' (h : Below w.heap.size w w') => hT.below h)
  have hRB := Lib.hid (fun w' (h : Below w.heap.size w w') => hR.still h)
  clear hT hR hb
  rcases hsp with ⟨g1, g2, g3⟩ | ⟨g1, g2, g3⟩
  · rcases hDg with ⟨q1, q2⟩ | ⟨q1, T, q2, q3⟩
    · exfalso
      have : (E : Int) = 0 := by simpa using g1
      omega
    · subst g3
      have hexn : decide (0 ≤ ex) = false := by simp; omega
      have hTl : 0 ≤ T ∧ T ≤ 1022 := by omega
      go_enter Tryz.func85, Tryz.ntmps85
      go_upto_region 14 with (fail)
      go_quiet (fail)
      go_upto_region 75 with (first | (go_at_call 95; refine (log10_any _ _ (by omega) (by omega)).mono ?_; rintro e w' ⟨rfl, rfl⟩))
      clear h1 h2 h3 h5 hE2 g1 g2 hM1 hr87 copt
      go_wp2_with (go_at_call 90; refine (fmtF_buf B v neg false _ 24 176 [] 0 0 prec _ (hRB.out _ ((below_drewN (Below.refl _ _) _).alloc (Nat.le_refl _) _)).rebase (buf_nil (Buf.new (w := w.drewN _) rfl)) (by decide) (by omega) (by omega) (by omega) (by omega) (by simp) (by omega) (by omega)).mono ?_; rintro e w5 ⟨v', rfl, hR5⟩; have HR5 := Lib.hid ((hRB.out _ ((below_drewN (Below.refl _ _) _).alloc (Nat.le_refl _) _)).join hR5); clear hR5)
      go_ret
      exact ⟨_, rfl, HR5.out⟩
  · subst g2
    rcases hDg with ⟨q1, q2⟩ | ⟨q1, T, q2, q3⟩
    · have hexn : decide (0 ≤ ex) = true := by simp; omega
      go_enter Tryz.func85, Tryz.ntmps85
      go_upto_region 14 with (fail)
      go_quiet (fail)
      go_upto_region 75 with (first | (go_at_call 95; refine (log10_any _ _ (by omega) (by omega)).mono ?_; rintro e w' ⟨rfl, rfl⟩))
      clear h1 h2 h3 h5 hE2 g1 g3 hM1 hr87 copt
      go_wp2_with (go_at_call 90; refine (fmtF_buf B v neg false _ 24 176 [] 0 0 prec _ (hRB.out _ ((below_drewN (Below.refl _ _) _).alloc (Nat.le_refl _) _)).rebase (buf_nil (Buf.new (w := w.drewN _) rfl)) (by decide) (by omega) (by omega) (by omega) (by omega) (by simp) (by omega) (by omega)).mono ?_; rintro e w5 ⟨v', rfl, hR5⟩; have HR5 := Lib.hid ((hRB.out _ ((below_drewN (Below.refl _ _) _).alloc (Nat.le_refl _) _)).join hR5); clear hR5)
      go_ret
      exact ⟨_, rfl, HR5.out⟩
    · have hexn : decide (0 ≤ ex) = false := by simp; omega
      have hTl : 0 ≤ T ∧ T ≤ 1022 := by omega
      go_enter Tryz.func85, Tryz.ntmps85
      go_upto_region 14 with (fail)
      go_quiet (fail)
      go_upto_region 75 with (first | (go_at_call 95; refine (log10_any _ _ (by omega) (by omega)).mono ?_; rintro e w' ⟨rfl, rfl⟩))
      clear h1 h2 h3 h5 hE2 g1 g3 hM1 hr87 copt
      go_wp2_with (go_at_call 90; refine (fmtF_buf B v neg false _ 24 176 [] 0 0 prec _ (hRB.out _ ((below_drewN (Below.refl _ _) _).alloc (Nat.le_refl _) _)).rebase (buf_nil (Buf.new (w := w.drewN _) rfl)) (by decide) (by omega) (by omega) (by omega) (by omega) (by simp) (by omega) (by omega)).mono ?_; rintro e w5 ⟨v', rfl, hR5⟩; have HR5 := Lib.hid ((hRB.out _ ((below_drewN (Below.refl _ _) _).alloc (Nat.le_refl _) _)).join hR5); clear hR5)
      go_ret
      exact ⟨_, rfl, HR5.out⟩

set_option maxRecDepth 100000 in
set_option maxHeartbeats 4000000 in
/-- Digits are asked for, and there are none. -/
theorem fixZero (x E M : Nat) (neg : Bool) (hb : Bits x E M neg) (hE1 : E < 2047) (X Mt : Nat) (hsp : Split E M X Mt) (hX0 : 1 ≤ X) (hX1 : X ≤ 2046) (hMtl : Mt < 9007199254740992) (hM0 : 0 < Mt)
    (prec ex Dg : Int) (hp0 : 0 ≤ prec) (hp1 : prec ≤ 20) (eX : (X : Int) + -1023 = ex) (hDg : Asked ex prec Dg) (h18 : Dg ≤ 18) (h0 : 0 < Dg) (Z : Nat) (q : Int) (hZ : wrap64 (64 - ((Lib.bitLen Mt : Nat) : Int)) = (Z : Int)) (hZ0 : 11 ≤ Z) (hZ1 : Z ≤ 63) (HS : Hid (∀ w, Tabs w → Calls Tryz.prog 96 #[.int .u64 (IntKind.u64.wrap ((Mt : Int) * 2 ^ Z)), .int .i64 (ex - Z - 52), .int .i64 Dg, .int .i64 prec, .int .u8 102] w (Ret (.tuple #[.int .u64 ((0 : Nat) : Int), .int .i64 q]) w))) :
    ∃ s, FixS s ∧ ∀ B v w, Tabs w → BRow B w v [] w → Calls Tryz.prog 85 #[v, .float .f64 x, .int .u8 102, .int .i64 prec] w
      fun e w' => ∃ v', e = .returned v' ∧ BRow B w v' s w' := by
  refine ⟨fixF neg [] 0 0 prec, ⟨neg, [], 0, 0, prec, rfl, (fun _ h => nomatch h), by omega, by omega⟩, fun B v w hT hR => ?_⟩
  have hD0 : decide (0 < Dg) = true := by simp; omega
  have hr87 := fun w => run87 x w
  have h1 := hb.exp
  have h2 := hb.man
  have h3 := hb.sgn
  have h5 := hb.mtop
  have h6 := hb.all
  have hE2 : ((E : Int) == 2047) = false := beq_false_of_ne (by omega)
  have hM1 : ((Mt : Int) == 0) = false := beq_false_of_ne (by omega)
  have hpn : decide (prec < 0) = false := by simp; omega
  have hD18 : decide (Dg ≤ 18) = true := by simp; omega
  have hexb : ex ≤ 1023 := by omega
  have hexb0 : -1022 ≤ ex := by omega
  have copt := hT.opt
  have hTB := Lib.hid (fun w' (h : Below w.heap.size w w') => hT.below h)
  have hRB := Lib.hid (fun w' (h : Below w.heap.size w w') => hR.still h)
  clear hT hR hb
  rcases hsp with ⟨g1, g2, g3⟩ | ⟨g1, g2, g3⟩
  · rcases hDg with ⟨q1, q2⟩ | ⟨q1, T, q2, q3⟩
    · exfalso
      have : (E : Int) = 0 := by simpa using g1
      omega
    · subst g3
      have hexn : decide (0 ≤ ex) = false := by simp; omega
      have hTl : 0 ≤ T ∧ T ≤ 1022 := by omega
      go_enter Tryz.func85, Tryz.ntmps85
      go_upto_region 14 with (fail)
      go_quiet (fail)
      go_upto_region 69 with (first | (go_at_call 95; refine (log10_any _ _ (by omega) (by omega)).mono ?_; rintro e w' ⟨rfl, rfl⟩))
      clear h1 h2 h3 h5 hE2 g1 g2 hM1 hr87 copt
      go_upto_region 73 with (first | (go_at_call 91; refine (Tryz.bits_Len64 _ _ (by omega) (by omega)).mono ?_; rintro e w' ⟨rfl, rfl⟩) | (go_at_call 96; refine (HS.out _ (hTB.out _ ((below_drewN (Below.refl _ _) _).alloc (Nat.le_refl _) _))).mono ?_; rintro e w2 ⟨rfl, hB2⟩))
      have hBuf : Hid (∀ n, Buf w.heap.size 24 176 (fun _ => 0) (w2.drewN n)) := Lib.hid (fun n => ((Buf.new (w := w.drewN _) (T := 176) (N := 24) rfl).heap (hB2.block _ (by simp))).heap rfl)
      have hBw : Hid (Below w.heap.size w w2) := Lib.hid (((below_drewN (Below.refl _ _) _).alloc (Nat.le_refl _) _).trans (hB2.mono (by simp)))
      clear hB2
      have hR2 := Lib.hid (hRB.out _ hBw.out)
      go_wp2_with (go_at_call 90; refine (fmtF_buf B v neg false _ 24 176 [] 0 0 prec _ hR2.out.rebase (buf_nil (hBuf.out 0)) (by decide) (by omega) (by omega) (by omega) (by omega) (by simp) (by omega) (by omega)).mono ?_; rintro e w5 ⟨v', rfl, hR5⟩; have HR5 := Lib.hid (hR2.out.join hR5); clear hR5)
      go_ret
      exact ⟨_, rfl, HR5.out⟩
  · subst g2
    rcases hDg with ⟨q1, q2⟩ | ⟨q1, T, q2, q3⟩
    · have hexn : decide (0 ≤ ex) = true := by simp; omega
      go_enter Tryz.func85, Tryz.ntmps85
      go_upto_region 14 with (fail)
      go_quiet (fail)
      go_upto_region 69 with (first | (go_at_call 95; refine (log10_any _ _ (by omega) (by omega)).mono ?_; rintro e w' ⟨rfl, rfl⟩))
      clear h1 h2 h3 h5 hE2 g1 g3 hM1 hr87 copt
      go_upto_region 73 with (first | (go_at_call 91; refine (Tryz.bits_Len64 _ _ (by omega) (by omega)).mono ?_; rintro e w' ⟨rfl, rfl⟩) | (go_at_call 96; refine (HS.out _ (hTB.out _ ((below_drewN (Below.refl _ _) _).alloc (Nat.le_refl _) _))).mono ?_; rintro e w2 ⟨rfl, hB2⟩))
      have hBuf : Hid (∀ n, Buf w.heap.size 24 176 (fun _ => 0) (w2.drewN n)) := Lib.hid (fun n => ((Buf.new (w := w.drewN _) (T := 176) (N := 24) rfl).heap (hB2.block _ (by simp))).heap rfl)
      have hBw : Hid (Below w.heap.size w w2) := Lib.hid (((below_drewN (Below.refl _ _) _).alloc (Nat.le_refl _) _).trans (hB2.mono (by simp)))
      clear hB2
      have hR2 := Lib.hid (hRB.out _ hBw.out)
      go_wp2_with (go_at_call 90; refine (fmtF_buf B v neg false _ 24 176 [] 0 0 prec _ hR2.out.rebase (buf_nil (hBuf.out 0)) (by decide) (by omega) (by omega) (by omega) (by omega) (by simp) (by omega) (by omega)).mono ?_; rintro e w5 ⟨v', rfl, hR5⟩; have HR5 := Lib.hid (hR2.out.join hR5); clear hR5)
      go_ret
      exact ⟨_, rfl, HR5.out⟩
    · have hexn : decide (0 ≤ ex) = false := by simp; omega
      have hTl : 0 ≤ T ∧ T ≤ 1022 := by omega
      go_enter Tryz.func85, Tryz.ntmps85
      go_upto_region 14 with (fail)
      go_quiet (fail)
      go_upto_region 69 with (first | (go_at_call 95; refine (log10_any _ _ (by omega) (by omega)).mono ?_; rintro e w' ⟨rfl, rfl⟩))
      clear h1 h2 h3 h5 hE2 g1 g3 hM1 hr87 copt
      go_upto_region 73 with (first | (go_at_call 91; refine (Tryz.bits_Len64 _ _ (by omega) (by omega)).mono ?_; rintro e w' ⟨rfl, rfl⟩) | (go_at_call 96; refine (HS.out _ (hTB.out _ ((below_drewN (Below.refl _ _) _).alloc (Nat.le_refl _) _))).mono ?_; rintro e w2 ⟨rfl, hB2⟩))
      have hBuf : Hid (∀ n, Buf w.heap.size 24 176 (fun _ => 0) (w2.drewN n)) := Lib.hid (fun n => ((Buf.new (w := w.drewN _) (T := 176) (N := 24) rfl).heap (hB2.block _ (by simp))).heap rfl)
      have hBw : Hid (Below w.heap.size w w2) := Lib.hid (((below_drewN (Below.refl _ _) _).alloc (Nat.le_refl _) _).trans (hB2.mono (by simp)))
      clear hB2
      have hR2 := Lib.hid (hRB.out _ hBw.out)
      go_wp2_with (go_at_call 90; refine (fmtF_buf B v neg false _ 24 176 [] 0 0 prec _ hR2.out.rebase (buf_nil (hBuf.out 0)) (by decide) (by omega) (by omega) (by omega) (by omega) (by simp) (by omega) (by omega)).mono ?_; rintro e w5 ⟨v', rfl, hR5⟩; have HR5 := Lib.hid (hR2.out.join hR5); clear hR5)
      go_ret
      exact ⟨_, rfl, HR5.out⟩

set_option maxRecDepth 100000 in
set_option maxHeartbeats 4000000 in
/-- Digits are asked for. -/
theorem fixDigits (x E M : Nat) (neg : Bool) (hb : Bits x E M neg) (hE1 : E < 2047) (X Mt : Nat) (hsp : Split E M X Mt) (hX0 : 1 ≤ X) (hX1 : X ≤ 2046) (hMtl : Mt < 9007199254740992) (hM0 : 0 < Mt)
    (prec ex Dg : Int) (hp0 : 0 ≤ prec) (hp1 : prec ≤ 20) (eX : (X : Int) + -1023 = ex) (hDg : Asked ex prec Dg) (h18 : Dg ≤ 18) (h0 : 0 < Dg) (Z : Nat) (u : Nat) (q : Int) (hZ : wrap64 (64 - ((Lib.bitLen Mt : Nat) : Int)) = (Z : Int)) (hZ0 : 11 ≤ Z) (hZ1 : Z ≤ 63) (hu0 : u ≠ 0) (hd1 : (u : Int) < 4611686018427387904) (hq0 : -400 ≤ q) (hq1 : q ≤ 400) (HS : Hid (∀ w, Tabs w → Calls Tryz.prog 96 #[.int .u64 (IntKind.u64.wrap ((Mt : Int) * 2 ^ Z)), .int .i64 (ex - Z - 52), .int .i64 Dg, .int .i64 prec, .int .u8 102] w (Ret (.tuple #[.int .u64 (u : Int), .int .i64 q]) w))) :
    ∃ s, FixS s ∧ ∀ B v w, Tabs w → BRow B w v [] w → Calls Tryz.prog 85 #[v, .float .f64 x, .int .u8 102, .int .i64 prec] w
      fun e w' => ∃ v', e = .returned v' ∧ BRow B w v' s w' := by
  have hSD : ∀ b w', Buf b 24 176 (fun _ => 0) w' → _ := fun b w' h => setDigits_buf b 24 u 176 q w' h (by omega) (by have := digs_length_le u 19 (by omega); omega) (by omega) (by omega) (by omega)
  have hND : ∀ w', Tabs w' → _ := fun w' h => numDigits_any u (by omega) w' h
  have hL19 := digs_length_le u 19 (by omega)
  have hNL := trimN_le (digs u)
  have hdg : ∀ c ∈ digs u, isDig c := digs_isDig u
  obtain ⟨ds, hds⟩ : ∃ ds, digs u = ds := ⟨_, rfl⟩
  rw [hds] at hL19 hNL hdg
  simp only [hds] at hSD hND
  obtain ⟨L, hL⟩ : ∃ L, ds.length = L := ⟨_, rfl⟩
  obtain ⟨N, hN⟩ : ∃ N, trimN ds = N := ⟨_, rfl⟩
  rw [hL] at hL19 hNL
  rw [hN] at hNL
  simp only [hL, hN] at hSD hND
  have HSD := Lib.hid hSD
  have HND := Lib.hid hND
  have HL := Lib.hid hL
  clear hSD hND hL hN hds
  have hub : ((u : Int) != 0) = true := by rw [bne, beq_false_of_ne (by omega)]; rfl
  refine ⟨fixF neg ds ((L : Int) + q) N prec, ⟨_, _, _, _, _, rfl, hdg, by omega, by omega⟩, fun B v w hT hR => ?_⟩
  have hD0 : decide (0 < Dg) = true := by simp; omega
  have hr87 := fun w => run87 x w
  have h1 := hb.exp
  have h2 := hb.man
  have h3 := hb.sgn
  have h5 := hb.mtop
  have h6 := hb.all
  have hE2 : ((E : Int) == 2047) = false := beq_false_of_ne (by omega)
  have hM1 : ((Mt : Int) == 0) = false := beq_false_of_ne (by omega)
  have hpn : decide (prec < 0) = false := by simp; omega
  have hD18 : decide (Dg ≤ 18) = true := by simp; omega
  have hexb : ex ≤ 1023 := by omega
  have hexb0 : -1022 ≤ ex := by omega
  have copt := hT.opt
  have hTB := Lib.hid (fun w' (h : Below w.heap.size w w') => hT.below h)
  have hRB := Lib.hid (fun w' (h : Below w.heap.size w w') => hR.still h)
  clear hT hR hb
  rcases hsp with ⟨g1, g2, g3⟩ | ⟨g1, g2, g3⟩
  · rcases hDg with ⟨q1, q2⟩ | ⟨q1, T, q2, q3⟩
    · exfalso
      have : (E : Int) = 0 := by simpa using g1
      omega
    · subst g3
      have hexn : decide (0 ≤ ex) = false := by simp; omega
      have hTl : 0 ≤ T ∧ T ≤ 1022 := by omega
      go_enter Tryz.func85, Tryz.ntmps85
      go_upto_region 14 with (fail)
      go_quiet (fail)
      go_upto_region 69 with (first | (go_at_call 95; refine (log10_any _ _ (by omega) (by omega)).mono ?_; rintro e w' ⟨rfl, rfl⟩))
      clear h1 h2 h3 h5 hE2 g1 g2 hM1 hr87 copt
      go_upto_region 73 with (first | (go_at_call 91; refine (Tryz.bits_Len64 _ _ (by omega) (by omega)).mono ?_; rintro e w' ⟨rfl, rfl⟩) | (go_at_call 96; refine (HS.out _ (hTB.out _ ((below_drewN (Below.refl _ _) _).alloc (Nat.le_refl _) _))).mono ?_; rintro e w2 ⟨rfl, hB2⟩))
      have hBuf : Hid (∀ n, Buf w.heap.size 24 176 (fun _ => 0) (w2.drewN n)) := Lib.hid (fun n => ((Buf.new (w := w.drewN _) (T := 176) (N := 24) rfl).heap (hB2.block _ (by simp))).heap rfl)
      have hBw : Hid (Below w.heap.size w w2) := Lib.hid (((below_drewN (Below.refl _ _) _).alloc (Nat.le_refl _) _).trans (hB2.mono (by simp)))
      clear hB2
      go_upto_region 74 with (fail)
      clear hZ hZ0 hZ1 hub hexn hpn hD18 hD0
      go_region_with (first | (go_at_call 94; refine (HND.out _ (hTB.out _ (below_drewN hBw.out 1))).mono ?_; rintro e w' ⟨rfl, rfl⟩) | (go_at_call 93; refine (HSD.out _ _ (hBuf.out _)).mono ?_; rintro e w3 ⟨rfl, hBuf3, hK3⟩))
      have hB3 := Lib.hid (hK3.below w.heap.size (Nat.le_refl _) (Nat.le_trans hBw.out.size (Nat.le_refl _)))
      have hBF := Lib.hid hBuf3
      clear hBuf3 hK3
      have hR3 := Lib.hid (hRB.out _ ((below_drewN hBw.out _).trans hB3.out))
      go_wp2_with (go_at_call 90; refine (fmtF_buf B v neg false _ 24 176 ds ((L : Int) + q) N prec _ hR3.out.rebase hBF.out (by decide) (by omega) (by omega) (by omega) (by omega) (by rw [HL.out]; exact hNL) (by omega) (by omega)).mono ?_; rintro e w4 ⟨v', rfl, hR4⟩; have HR4 := Lib.hid (hR3.out.join hR4); clear hR4)
      go_ret
      exact ⟨_, rfl, HR4.out⟩
  · subst g2
    rcases hDg with ⟨q1, q2⟩ | ⟨q1, T, q2, q3⟩
    · have hexn : decide (0 ≤ ex) = true := by simp; omega
      go_enter Tryz.func85, Tryz.ntmps85
      go_upto_region 14 with (fail)
      go_quiet (fail)
      go_upto_region 69 with (first | (go_at_call 95; refine (log10_any _ _ (by omega) (by omega)).mono ?_; rintro e w' ⟨rfl, rfl⟩))
      clear h1 h2 h3 h5 hE2 g1 g3 hM1 hr87 copt
      go_upto_region 73 with (first | (go_at_call 91; refine (Tryz.bits_Len64 _ _ (by omega) (by omega)).mono ?_; rintro e w' ⟨rfl, rfl⟩) | (go_at_call 96; refine (HS.out _ (hTB.out _ ((below_drewN (Below.refl _ _) _).alloc (Nat.le_refl _) _))).mono ?_; rintro e w2 ⟨rfl, hB2⟩))
      have hBuf : Hid (∀ n, Buf w.heap.size 24 176 (fun _ => 0) (w2.drewN n)) := Lib.hid (fun n => ((Buf.new (w := w.drewN _) (T := 176) (N := 24) rfl).heap (hB2.block _ (by simp))).heap rfl)
      have hBw : Hid (Below w.heap.size w w2) := Lib.hid (((below_drewN (Below.refl _ _) _).alloc (Nat.le_refl _) _).trans (hB2.mono (by simp)))
      clear hB2
      go_upto_region 74 with (fail)
      clear hZ hZ0 hZ1 hub hexn hpn hD18 hD0
      go_region_with (first | (go_at_call 94; refine (HND.out _ (hTB.out _ (below_drewN hBw.out 1))).mono ?_; rintro e w' ⟨rfl, rfl⟩) | (go_at_call 93; refine (HSD.out _ _ (hBuf.out _)).mono ?_; rintro e w3 ⟨rfl, hBuf3, hK3⟩))
      have hB3 := Lib.hid (hK3.below w.heap.size (Nat.le_refl _) (Nat.le_trans hBw.out.size (Nat.le_refl _)))
      have hBF := Lib.hid hBuf3
      clear hBuf3 hK3
      have hR3 := Lib.hid (hRB.out _ ((below_drewN hBw.out _).trans hB3.out))
      go_wp2_with (go_at_call 90; refine (fmtF_buf B v neg false _ 24 176 ds ((L : Int) + q) N prec _ hR3.out.rebase hBF.out (by decide) (by omega) (by omega) (by omega) (by omega) (by rw [HL.out]; exact hNL) (by omega) (by omega)).mono ?_; rintro e w4 ⟨v', rfl, hR4⟩; have HR4 := Lib.hid (hR3.out.join hR4); clear hR4)
      go_ret
      exact ⟨_, rfl, HR4.out⟩
    · have hexn : decide (0 ≤ ex) = false := by simp; omega
      have hTl : 0 ≤ T ∧ T ≤ 1022 := by omega
      go_enter Tryz.func85, Tryz.ntmps85
      go_upto_region 14 with (fail)
      go_quiet (fail)
      go_upto_region 69 with (first | (go_at_call 95; refine (log10_any _ _ (by omega) (by omega)).mono ?_; rintro e w' ⟨rfl, rfl⟩))
      clear h1 h2 h3 h5 hE2 g1 g3 hM1 hr87 copt
      go_upto_region 73 with (first | (go_at_call 91; refine (Tryz.bits_Len64 _ _ (by omega) (by omega)).mono ?_; rintro e w' ⟨rfl, rfl⟩) | (go_at_call 96; refine (HS.out _ (hTB.out _ ((below_drewN (Below.refl _ _) _).alloc (Nat.le_refl _) _))).mono ?_; rintro e w2 ⟨rfl, hB2⟩))
      have hBuf : Hid (∀ n, Buf w.heap.size 24 176 (fun _ => 0) (w2.drewN n)) := Lib.hid (fun n => ((Buf.new (w := w.drewN _) (T := 176) (N := 24) rfl).heap (hB2.block _ (by simp))).heap rfl)
      have hBw : Hid (Below w.heap.size w w2) := Lib.hid (((below_drewN (Below.refl _ _) _).alloc (Nat.le_refl _) _).trans (hB2.mono (by simp)))
      clear hB2
      go_upto_region 74 with (fail)
      clear hZ hZ0 hZ1 hub hexn hpn hD18 hD0
      go_region_with (first | (go_at_call 94; refine (HND.out _ (hTB.out _ (below_drewN hBw.out 1))).mono ?_; rintro e w' ⟨rfl, rfl⟩) | (go_at_call 93; refine (HSD.out _ _ (hBuf.out _)).mono ?_; rintro e w3 ⟨rfl, hBuf3, hK3⟩))
      have hB3 := Lib.hid (hK3.below w.heap.size (Nat.le_refl _) (Nat.le_trans hBw.out.size (Nat.le_refl _)))
      have hBF := Lib.hid hBuf3
      clear hBuf3 hK3
      have hR3 := Lib.hid (hRB.out _ ((below_drewN hBw.out _).trans hB3.out))
      go_wp2_with (go_at_call 90; refine (fmtF_buf B v neg false _ 24 176 ds ((L : Int) + q) N prec _ hR3.out.rebase hBF.out (by decide) (by omega) (by omega) (by omega) (by omega) (by rw [HL.out]; exact hNL) (by omega) (by omega)).mono ?_; rintro e w4 ⟨v', rfl, hR4⟩; have HR4 := Lib.hid (hR3.out.join hR4); clear hR4)
      go_ret
      exact ⟨_, rfl, HR4.out⟩

theorem fixSome (x E M : Nat) (neg : Bool) (hb : Bits x E M neg) (hE1 : E < 2047) (X Mt : Nat) (hsp : Split E M X Mt) (hX0 : 1 ≤ X) (hX1 : X ≤ 2046) (hMtl : Mt < 9007199254740992) (hM0 : 0 < Mt)
    (prec ex Dg : Int) (hp0 : 0 ≤ prec) (hp1 : prec ≤ 20) (eX : (X : Int) + -1023 = ex) (hDg : Asked ex prec Dg) (h18 : Dg ≤ 18) (h0 : 0 < Dg) :
    ∃ s, FixS s ∧ ∀ B v w, Tabs w → BRow B w v [] w → Calls Tryz.prog 85 #[v, .float .f64 x, .int .u8 102, .int .i64 prec] w
      fun e w' => ∃ v', e = .returned v' ∧ BRow B w v' s w' := by
  obtain ⟨Z, hZ, hZ0, hZ1⟩ := bitLen_room Mt hM0 hMtl
  obtain ⟨d, q, ⟨hd0, hd1, hq0, hq1⟩, hS⟩ := fixedWidth_ex (IntKind.u64.wrap ((Mt : Int) * 2 ^ Z)) (ex - Z - 52) Dg prec (by omega) (by omega) (by omega) (by omega) hp0 hp1
  obtain ⟨u, rfl⟩ : ∃ u : Nat, d = u := ⟨d.toNat, by omega⟩
  have HS := Lib.hid hS
  clear hS
  by_cases hu0 : u = 0
  · subst hu0
    exact fixZero x E M neg hb hE1 X Mt hsp hX0 hX1 hMtl hM0 prec ex Dg hp0 hp1 eX hDg h18 h0 Z q hZ hZ0 hZ1 HS
  · exact fixDigits x E M neg hb hE1 X Mt hsp hX0 hX1 hMtl hM0 prec ex Dg hp0 hp1 eX hDg h18 h0 Z u q hZ hZ0 hZ1 hu0 hd1 hq0 hq1 HS

end Go.Proofs.YtokmamakmaojpaaGreatDoor

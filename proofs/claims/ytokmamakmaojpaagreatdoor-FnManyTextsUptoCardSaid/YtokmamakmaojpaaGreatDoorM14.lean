/-
  A17. ftoa64: the bits of a float, the buffer of digits; the shortest text.
  A18. ftoa64 where the digits asked for are many: by the decimal.
-/
import Derived.Test.YtokmamakmaojpaaGreatDoorM06
import Derived.Test.YtokmamakmaojpaaGreatDoorM10
import Derived.Test.YtokmamakmaojpaaGreatDoorM09
import Derived.Test.YtokmamakmaojpaaGreatDoorM13
import Derived.Test.YtokmamakmaojpaaGreatDoorM04
import Derived.Laws.Externs
import Derived.Lib.AppendStr
set_option linter.unusedVariables false
set_option linter.unusedSimpArgs false
/- A17. -/
namespace Go.Proofs.YtokmamakmaojpaaGreatDoor
open Go.RowKit Go.Sort

theorem run87 (x : Nat) (w : World) : (callFunc 87 #[.float .f64 x]).run Tryz.prog w = .ok (.value (.int .u64 (x : Int))) w := by
  rw [run_callFunc_extern Tryz.func87 (by kernel_rfl) (by kernel_rfl) (by kernel_rfl) (e := Extern.MathFloatBits.float64bits) (by kernel_rfl)]
  rfl

theorem heap_putRow_same {α : Type} [Inhabited α] {enc : α → Value} {w : World} {b : Nat} {d : Array α} {cs : Array Value} {T : TypeId} {fz : Nat × Nat} (h : w.heap[b]? = some (.cells cs T fz)) : (putRow enc w b 0 d).heap[b]? = some (.cells (putCells enc 0 d cs) T fz) := by
  simp [putRow, mapBlock, Array.getElem?_modify, h, onCells]
theorem kp_putRow {α : Type} [Inhabited α] (enc : α → Value) (w : World) (b : Nat) (d : Array α) : Kp b w (putRow enc w b 0 d) :=
  ⟨rfl, rfl, rfl, by simp [putRow, mapBlock], fun k _ hk => by simp only [putRow, mapBlock, Array.getElem?_modify]; rw [if_neg (fun e => hk (Eq.symm e))]⟩

/-- setDigits into a row of noughts. -/
theorem setDigits_buf (b N u : Nat) (T : TypeId) (p : Int) (w : World) (hB : Buf b N T (fun _ => 0) w) (hN : N ≤ 1000) (hL : (digs u).length ≤ N) (hu : u < 18446744073709551616) (hp0 : -1000 ≤ p) (hp1 : p ≤ 1000) :
    Calls Tryz.prog 93 #[.slice (some ⟨b, 0, none⟩) N N, .int .u64 u, .int .i64 p, .int .i64 (digs u).length] w
      fun e w' => e = .returned (.tuple #[.int .i64 ((digs u).length + p), .int .i64 (trimN (digs u))]) ∧ Buf b N T (fun i => ((digs u).getD i 0).toNat) w' ∧ Kp b w w' := by
  refine (setDigits_any b 0 N N u p w hL (Nat.le_refl _) hN hu hp0 hp1 fun j hj => ⟨by rw [Nat.zero_add]; exact hB.cell j (by omega), hB.frozen _⟩).mono fun e w' ⟨he, n, hw⟩ => ⟨he, ?_, ?_⟩
  · obtain ⟨cs, h1, h2, h3⟩ := hB.at_
    subst hw
    refine ⟨_, heap_putRow_same h1, by simpa [putCells] using h2, fun i hi => ?_⟩
    unfold putCells
    rw [Array.getElem?_mapIdx, h3 i hi]
    by_cases h4 : i < (digs u).length
    · simp [h4, encB, List.getD_eq_getElem?_getD]
    · simp [h4, List.getD_eq_getElem?_getD]
  · subst hw
    exact (kp_putRow _ _ _ _).drewN n

theorem fmtF_buf (B : Nat) (v : Value) (neg sh : Bool) (b NB : Nat) (T : TypeId) (ds : List UInt8) (dp : Int) (N : Nat) (prec : Int) (w : World) (hR : BRow B w v [] w) (hB : Buf b NB T (fun i => (ds.getD i 0).toNat) w) (hT : T ≠ 5)
    (hd0 : -1000 ≤ dp) (hd1 : dp ≤ 1000) (hn : N ≤ NB) (hNB : NB ≤ 1000) (hds : N ≤ ds.length) (hp0 : 0 ≤ prec) (hp1 : prec ≤ 1000) :
    Calls Tryz.prog 90 #[v, .bool neg, .slice (some ⟨b, 0, none⟩) NB NB, .int .i64 dp, .int .i64 N, .int .i64 prec, .int .u8 102, .bool sh] w
      fun e w' => ∃ v', e = .returned v' ∧ BRow B w v' (fixF neg ds dp N prec) w' := by
  obtain ⟨cs, h1, h2, h3⟩ := hB.at_
  exact fmtF_any B v [] neg sh _ b NB NB ds dp N prec w hR (by simp) hd0 hd1 hn (Nat.le_refl _) hNB hp0 hp1 rfl cs T (0, 0) hT h1 hds (fun j hj => h3 j (by omega))

/-- A text as %f makes it, of digits, with one point at most. -/
def FixS (s : List UInt8) : Prop := ∃ neg ds dp, ∃ N : Nat, ∃ prec, s = fixF neg ds dp N prec ∧ (∀ c ∈ ds, isDig c) ∧ dp ≤ 1000 ∧ prec ≤ 1000

/-- What the bits of a float say. -/
structure Bits (x : Nat) (E M : Nat) (neg : Bool) : Prop where
  exp : bits .and .i64 ((x : Int) / 4503599627370496) 2047 = (E : Int)
  man : bits .and .u64 (x : Int) 4503599627370495 = (M : Int)
  sgn : ((x : Int) / 9223372036854775808 != 0) = neg
  top : E < 2048
  all : x < 18446744073709551616
  mtop : M < 4503599627370496
  orM : bits .or .u64 (M : Int) 4503599627370496 = ((M + 4503599627370496 : Nat) : Int)
theorem i64_and2047 (n : Int) : bits .and .i64 n 2047 = n % 2048 := by
  have h2047 : (BitVec.ofInt 64 2047).toNat = 2 ^ 11 - 1 := by decide
  have key : (BitVec.ofInt 64 n &&& BitVec.ofInt 64 2047).toNat = (n % ((2 ^ 64 : Nat) : Int)).toNat % 2 ^ 11 := by
    rw [BitVec.toNat_and, BitVec.toNat_ofInt, h2047, Nat.and_two_pow_sub_one_eq_mod]
  show IntKind.i64.wrap ((BitVec.ofInt 64 n &&& BitVec.ofInt 64 2047).toNat : Nat) = n % 2048
  rw [key, IntKind.wrap_i64]
  omega
theorem bits_of (x : Nat) (hx : x < 18446744073709551616) : ∃ E M neg, Bits x E M neg := by
  refine ⟨x / 4503599627370496 % 2048, x % 4503599627370496, _, ?_, ?_, rfl, Nat.mod_lt _ (by omega), hx, Nat.mod_lt _ (by omega), ?_⟩
  · rw [i64_and2047]
    omega
  · rw [show (4503599627370495 : Int) = ((4503599627370495 : Nat) : Int) from rfl, u64_and_nat _ _ hx (by omega), Nat.and_two_pow_sub_one_eq_mod x 52]
  · rw [show (4503599627370496 : Int) = ((4503599627370496 : Nat) : Int) from rfl, u64_or_nat _ _ (by omega) (by omega), Nat.or_comm]
    have h := Nat.two_pow_add_eq_or_of_lt (i := 52) (b := x % 4503599627370496) (Nat.mod_lt _ (by omega)) 1
    rw [Nat.mul_one] at h
    have h2 : (4503599627370496 : Nat) = 2 ^ 52 := by decide
    rw [h2] at h ⊢
    omega

/-- The exponent and the mantissa as the code makes them. -/
def Split (E M X Mt : Nat) : Prop := (((E : Int) == 0) = true ∧ (E : Int) + 1 = (X : Int) ∧ Mt = M) ∨ (((E : Int) == 0) = false ∧ X = E ∧ bits .or .u64 (M : Int) 4503599627370496 = (Mt : Int))
theorem split_of {x E M : Nat} {neg : Bool} (hb : Bits x E M neg) (hE : E < 2047) : ∃ X Mt, Split E M X Mt ∧ 1 ≤ X ∧ X ≤ 2046 ∧ Mt < 9007199254740992 := by
  have := hb.mtop
  by_cases h : E = 0
  · exact ⟨1, M, Or.inl ⟨by rw [h]; rfl, by rw [h]; rfl, rfl⟩, by omega, by omega, by omega⟩
  · exact ⟨E, M + 4503599627370496, Or.inr ⟨beq_false_of_ne (by omega), rfl, hb.orM⟩, by omega, by omega, by omega⟩
theorem bitLen_room (m : Nat) (h0 : 0 < m) (h1 : m < 9007199254740992) : ∃ Z : Nat, wrap64 (64 - ((Lib.bitLen m : Nat) : Int)) = (Z : Int) ∧ 11 ≤ Z ∧ Z ≤ 63 := by
  have h := Lib.bitLenAux_bounds 64 m (by omega) (by omega)
  obtain ⟨b, hb⟩ : ∃ b, Lib.bitLen m = b := ⟨_, rfl⟩
  have h' : 1 ≤ b ∧ 2 ^ (b - 1) ≤ m ∧ m < 2 ^ b := by rw [← hb]; exact h
  have hb53 : b ≤ 53 := by
    rcases Nat.lt_or_ge 53 b with h2 | h2
    · have h3 : 2 ^ 53 ≤ 2 ^ (b - 1) := Nat.pow_le_pow_right (by omega) (by omega)
      omega
    · exact h2
  refine ⟨64 - b, ?_, by omega, by omega⟩
  rw [hb]
  unfold wrap64
  omega

set_option maxRecDepth 100000 in
set_option maxHeartbeats 2000000 in
theorem ftoa_short (x E M : Nat) (neg : Bool) (hb : Bits x E M neg) (hE1 : E < 2047) (X Mt : Nat) (hsp : Split E M X Mt) (hX0 : 1 ≤ X) (hX1 : X ≤ 2046) (hMtl : Mt < 9007199254740992) (hM0 : 0 < Mt) :
    ∃ s, FixS s ∧ ∀ B v w, Tabs w → BRow B w v [] w → Calls Tryz.prog 85 #[v, .float .f64 x, .int .u8 102, .int .i64 (-1)] w
      fun e w' => ∃ v', e = .returned v' ∧ BRow B w v' s w' := by
  obtain ⟨Z, hZ, hZ0, hZ1⟩ := bitLen_room Mt hM0 hMtl
  obtain ⟨d, q, ⟨hd0, hd1, hq0, hq1⟩, hS⟩ := shortFloat_ex (IntKind.u64.wrap ((Mt : Int) * 2 ^ Z)) ((X : Int) + -1023 - Z - 52) (by omega) (by omega)
  obtain ⟨u, rfl⟩ : ∃ u : Nat, d = u := ⟨d.toNat, by omega⟩
  have HS := Lib.hid hS
  clear hS
  have hSD : ∀ b w', Buf b 32 170 (fun _ => 0) w' → _ := fun b w' h => setDigits_buf b 32 u 170 q w' h (by omega) (by have := digs_length_le u 19 (by omega); omega) (by omega) (by omega) (by omega)
  have hND : ∀ w', Tabs w' → _ := fun w' h => numDigits_any u (by omega) w' h
  have hL19 := digs_length_le u 19 (by omega)
  have hNL := trimN_le (digs u)
  have hdg : ∀ c ∈ digs u, isDig c := digs_isDig u
  obtain ⟨ds, hds⟩ : ∃ ds, digs u = ds := ⟨_, rfl⟩
  rw [hds] at hL19 hNL hdg
  simp only [hds] at hSD hND
  obtain ⟨L, hL⟩ : ∃ L, ds.length = L := ⟨_, rfl⟩
  obtain ⟨N, hN⟩ : ∃ N, trimN ds = N := ⟨_, rfl⟩
  rw [hL] at hL19 hNL
  rw [hN] at hNL
  simp only [hL, hN] at hSD hND
  have HSD := Lib.hid hSD
  have HND := Lib.hid hND
  have HL := Lib.hid hL
  clear hSD hND hL hN hds
  refine ⟨fixF neg ds ((L : Int) + q) N (max ((N : Int) - (L + q)) 0), ⟨_, _, _, _, _, rfl, hdg, by omega, by omega⟩, fun B v w hT hR => ?_⟩
  have hr87 := fun w => run87 x w
  have h1 := hb.exp
  have h2 := hb.man
  have h3 := hb.sgn
  have h5 := hb.mtop
  have h6 := hb.all
  have hE2 : ((E : Int) == 2047) = false := beq_false_of_ne (by omega)
  have hM1 : ((Mt : Int) == 0) = false := beq_false_of_ne (by omega)
  have hTB := Lib.hid (fun w' (h : Below w.heap.size w w') => hT.below h)
  have hRB := Lib.hid (fun w' (h : Below w.heap.size w w') => hR.still h)
  clear hT hR hb
  rcases hsp with ⟨g1, g2, g3⟩ | ⟨g1, g2, g3⟩
  · subst g3
    go_enter Tryz.func85, Tryz.ntmps85
    go_upto_region 14 with (fail)
    go_quiet (fail)
    go_upto_region 37 with (first | (go_at_call 91; refine (Tryz.bits_Len64 _ _ (by omega) (by omega)).mono ?_; rintro e w' ⟨rfl, rfl⟩))
    clear h1 h2 h3 h5 hE2 g1 g2 hM1 hZ hr87
    go_upto_region 38 with (first | (go_at_call 100; refine (HS.out _ (hTB.out _ ((below_drewN (Below.refl _ _) _).alloc (Nat.le_refl _) _))).mono ?_; rintro e w2 ⟨rfl, hB2⟩))
    have hBuf : Hid (∀ n, Buf w.heap.size 32 170 (fun _ => 0) (w2.drewN n)) := Lib.hid (fun n => ((Buf.new (w := w.drewN _) (T := 170) (N := 32) rfl).heap (hB2.block _ (by simp))).heap rfl)
    have hBw : Hid (Below w.heap.size w w2) := Lib.hid (((below_drewN (Below.refl _ _) _).alloc (Nat.le_refl _) _).trans (hB2.mono (by simp)))
    have hT2 := Lib.hid (hTB.out _ hBw.out)
    clear hB2
    go_region_with (first | (go_at_call 94; refine (HND.out _ (hTB.out _ (below_drewN hBw.out 1))).mono ?_; rintro e w' ⟨rfl, rfl⟩) | (go_at_call 93; refine (HSD.out _ _ (hBuf.out _)).mono ?_; rintro e w3 ⟨rfl, hBuf3, hK3⟩))
    have hB3 := Lib.hid (hK3.below w.heap.size (Nat.le_refl _) (Nat.le_trans hBw.out.size (Nat.le_refl _)))
    have hBF := Lib.hid hBuf3
    clear hBuf3 hK3
    have hR3 := Lib.hid (hRB.out _ ((below_drewN hBw.out _).trans hB3.out))
    go_wp2_with (go_at_call 90; refine (fmtF_buf B v neg true _ 32 170 ds ((L : Int) + q) N _ _ hR3.out.rebase hBF.out (by decide) (by omega) (by omega) (by omega) (by omega) (by rw [HL.out]; exact hNL) (by omega) (by omega)).mono ?_; rintro e w4 ⟨v', rfl, hR4⟩; have HR4 := Lib.hid (hR3.out.join hR4); clear hR4)
    go_ret
    exact ⟨_, rfl, HR4.out⟩
  · subst g2
    go_enter Tryz.func85, Tryz.ntmps85
    go_upto_region 14 with (fail)
    go_quiet (fail)
    go_upto_region 37 with (first | (go_at_call 91; refine (Tryz.bits_Len64 _ _ (by omega) (by omega)).mono ?_; rintro e w' ⟨rfl, rfl⟩))
    clear h1 h2 h3 h5 hE2 g1 g3 hM1 hZ hr87
    go_upto_region 38 with (first | (go_at_call 100; refine (HS.out _ (hTB.out _ ((below_drewN (Below.refl _ _) _).alloc (Nat.le_refl _) _))).mono ?_; rintro e w2 ⟨rfl, hB2⟩))
    have hBuf : Hid (∀ n, Buf w.heap.size 32 170 (fun _ => 0) (w2.drewN n)) := Lib.hid (fun n => ((Buf.new (w := w.drewN _) (T := 170) (N := 32) rfl).heap (hB2.block _ (by simp))).heap rfl)
    have hBw : Hid (Below w.heap.size w w2) := Lib.hid (((below_drewN (Below.refl _ _) _).alloc (Nat.le_refl _) _).trans (hB2.mono (by simp)))
    have hT2 := Lib.hid (hTB.out _ hBw.out)
    clear hB2
    go_region_with (first | (go_at_call 94; refine (HND.out _ (hTB.out _ (below_drewN hBw.out 1))).mono ?_; rintro e w' ⟨rfl, rfl⟩) | (go_at_call 93; refine (HSD.out _ _ (hBuf.out _)).mono ?_; rintro e w3 ⟨rfl, hBuf3, hK3⟩))
    have hB3 := Lib.hid (hK3.below w.heap.size (Nat.le_refl _) (Nat.le_trans hBw.out.size (Nat.le_refl _)))
    have hBF := Lib.hid hBuf3
    clear hBuf3 hK3
    have hR3 := Lib.hid (hRB.out _ ((below_drewN hBw.out _).trans hB3.out))
    go_wp2_with (go_at_call 90; refine (fmtF_buf B v neg true _ 32 170 ds ((L : Int) + q) N _ _ hR3.out.rebase hBF.out (by decide) (by omega) (by omega) (by omega) (by omega) (by rw [HL.out]; exact hNL) (by omega) (by omega)).mono ?_; rintro e w4 ⟨v', rfl, hR4⟩; have HR4 := Lib.hid (hR3.out.join hR4); clear hR4)
    go_ret
    exact ⟨_, rfl, HR4.out⟩
end Go.Proofs.YtokmamakmaojpaaGreatDoor

/- A18. -/
namespace Go.Proofs.YtokmamakmaojpaaGreatDoor
open Go.RowKit Go.Sort

theorem zero181 : Tryz.zeroCells181 = Array.replicate 800 (.int .u8 0) ++ #[.int .i64 0, .int .i64 0, .bool false, .bool false] := by kernel_rfl
theorem newDec (w : World) : DecD w.heap.size (fun _ => 0) 0 0 false (w.alloc (.cells Tryz.zeroCells181 181)) := by
  refine ⟨Tryz.zeroCells181, by show (w.heap.push _)[w.heap.size]? = _; simp, ?_, ?_, ?_, ?_, ?_⟩
  · rw [zero181]; simp
  · intro i hi
    rw [zero181, Array.getElem?_append_left (by simp; omega), Array.getElem?_replicate, if_pos hi]
    rfl
  · rw [zero181]; simp
  · rw [zero181]; simp
  · rw [zero181]; simp
theorem good_digs {u : Nat} (hu : 0 < u) (hu2 : u < 18446744073709551616) : Good (trimL (digs u)) ∧ trimP (digs u) ((digs u).length : Int) = (digs u).length ∧ 1 ≤ (digs u).length ∧ (digs u).length ≤ 20 := by
  have h20 := digs_length_le u 20 (by omega)
  have h1 : 0 < (digs u).length := by
    rcases Nat.eq_zero_or_pos (digs u).length with e | e
    · have := lt_pow_digs u
      rw [e] at this
      omega
    · exact e
  have hh := digs_head u (by omega)
  have ht := trimL_head _ h1 hh
  have hn := trimN_le (digs u)
  refine ⟨⟨ht.1, by rw [trimL_length]; omega, fun c hc => digs_isDig u c (trimN_zero_mem _ c hc), ht.2⟩, ?_, h1, h20⟩
  unfold trimP
  rw [if_neg (by have := trimN_head _ h1 hh; omega)]

theorem Dec.drewN {b : Nat} {l : List UInt8} {dp : Int} {tr : Bool} {w : World} (h : Dec b l dp tr w) (n : Nat) : Dec b l dp tr (w.drewN n) := by
  obtain ⟨d, h1, h2⟩ := h
  exact ⟨d, h1.drewN n, h2⟩

theorem slice179all (b : Nat) (w : World) : (Instr.sliceAt 179 (.pointer (some ⟨b, 0, none⟩)) none none none).run Tryz.prog w = .ok (.slice (some ⟨b, 0, none⟩) 800 800) w := by
  have hal : Tryz.prog.arrayLen 179 = 800 := by kernel_rfl
  have hs : ((sizeOf (Tryz.prog.elem 179)).run Tryz.prog w) = .ok 1 w := by
    have he : Tryz.prog.elem 179 = 5 := by kernel_rfl
    rw [he]
    go_simp
  rw [run_sliceAt_array_all w 179 ⟨b, 0, none⟩ (by kernel_rfl), hs, hal]
  simp [slicedAt, Addr.add]

theorem fmtF_dec (B : Nat) (v : Value) (neg sh : Bool) (b : Nat) (l : List UInt8) (dp : Int) (tr : Bool) (prec : Int) (w : World) (hR : BRow B w v [] w) (h : Dec b l dp tr w)
    (hd0 : -1000 ≤ dp) (hd1 : dp ≤ 1000) (hl : l.length ≤ 800) (hp0 : 0 ≤ prec) (hp1 : prec ≤ 1000) :
    Calls Tryz.prog 90 #[v, .bool neg, .slice (some ⟨b, 0, none⟩) 800 800, .int .i64 dp, .int .i64 l.length, .int .i64 prec, .int .u8 102, .bool sh] w
      fun e w' => ∃ v', e = .returned v' ∧ BRow B w v' (fixF neg l dp l.length prec) w' := by
  obtain ⟨d, hD, hd⟩ := h
  obtain ⟨cs, h1, h2, h3, _⟩ := hD.at_
  exact fmtF_any B v [] neg sh _ b 800 800 l dp l.length prec w hR (by simp) hd0 hd1 hl (by omega) (by omega) hp0 hp1 rfl cs 181 (0, 0) (by decide) h1 (Nat.le_refl _) (fun j hj => by rw [h3 j (by omega), ← getD_of (hd j hj)])

/-- How many digits are asked for. -/
def Asked (ex prec Dg : Int) : Prop := (0 ≤ ex ∧ 1 + (1 + ex) * 78913 / 262144 + prec = Dg) ∨ (ex < 0 ∧ ∃ T, -ex = T ∧ 1 + prec - T * 78913 / 262144 = Dg)

set_option maxRecDepth 100000 in
set_option maxHeartbeats 4000000 in
theorem ftoa_dec (x E M : Nat) (neg : Bool) (hb : Bits x E M neg) (hE1 : E < 2047) (X Mt : Nat) (hsp : Split E M X Mt) (hX0 : 1 ≤ X) (hX1 : X ≤ 2046) (hMtl : Mt < 9007199254740992) (hM0 : 0 < Mt)
    (prec ex Dg : Int) (hp0 : 0 ≤ prec) (hp1 : prec ≤ 20) (eX : (X : Int) + -1023 = ex) (hDg : Asked ex prec Dg) (h18 : 18 < Dg) :
    ∃ s, FixS s ∧ ∀ B v w, Tabs w → BRow B w v [] w → Calls Tryz.prog 85 #[v, .float .f64 x, .int .u8 102, .int .i64 prec] w
      fun e w' => ∃ v', e = .returned v' ∧ BRow B w v' s w' := by
  obtain ⟨gd, gp, gl0, gl1⟩ := good_digs hM0 (by omega)
  have hAS := fun b w h hbb => assign_dec Mt hM0 (by omega) b (fun _ => 0) 0 0 false w h hbb
  obtain ⟨l1, dp1, tr1, ⟨g1d, g1a, g1b⟩, hSH⟩ := shift_ex (trimL (digs Mt)) ((digs Mt).length : Int) false gd (ex - 52) (by omega) (by omega) (by omega) (by omega)
  obtain ⟨l2, dp2, ⟨k1, k2, k3, k4⟩, hRO⟩ := round_ex l1 dp1 tr1 (dp1 + prec) g1d.top (by omega) (by omega) (by omega) (by omega) (-700) 700 (by omega) (by omega) (by omega) (by omega) g1d.dig
  rw [gp] at hAS
  have HAS := Lib.hid hAS
  have HSH := Lib.hid hSH
  have HRO := Lib.hid hRO
  clear hAS hSH hRO gd gp g1d
  refine ⟨fixF neg l2 dp2 l2.length prec, ⟨_, _, _, _, _, rfl, k4, by omega, by omega⟩, fun B v w hT hR => ?_⟩
  have hr87 := fun w => run87 x w
  have h1 := hb.exp
  have h2 := hb.man
  have h3 := hb.sgn
  have h5 := hb.mtop
  have h6 := hb.all
  have hE2 : ((E : Int) == 2047) = false := beq_false_of_ne (by omega)
  have hM1 : ((Mt : Int) == 0) = false := beq_false_of_ne (by omega)
  have hpn : decide (prec < 0) = false := by simp; omega
  have hD18 : decide (Dg ≤ 18) = false := by simp; omega
  have hexb : ex ≤ 1023 := by omega
  have hexb0 : -1022 ≤ ex := by omega
  have copt := hT.opt
  have hTB := Lib.hid (fun w' (h : Below w.heap.size w w') => hT.below h)
  have hRB := Lib.hid (fun w' (h : Below w.heap.size w w') => hR.still h)
  have HTW := Lib.hid hT
  have hsl := fun w' => slice179all w.heap.size w'
  clear hT hR hb gl0 gl1
  rcases hsp with ⟨g1, g2, g3⟩ | ⟨g1, g2, g3⟩
  · rcases hDg with ⟨q1, q2⟩ | ⟨q1, T, q2, q3⟩
    · exfalso
      have : (E : Int) = 0 := by simpa using g1
      omega
    · subst g3
      have hexn : decide (0 ≤ ex) = false := by simp; omega
      have hTl : 0 ≤ T ∧ T ≤ 1022 := by omega
      go_enter Tryz.func85, Tryz.ntmps85
      go_upto_region 14 with (fail)
      go_quiet (fail)
      go_upto_region 76 with (first | (go_at_call 95; refine (log10_any _ _ (by omega) (by omega)).mono ?_; rintro e w' ⟨rfl, rfl⟩))
      clear h1 h2 h3 h5 hE2 g1 g2 hM1 hr87 copt
      go_upto_region 84 with (first | (go_at_call 97; refine (HAS.out w.heap.size _ (newDec (w.drewN _)) (by simp)).mono ?_; rintro e w2 ⟨rfl, hd2, hk2⟩; have HD2 := Lib.hid hd2; have HB2 := Lib.hid (((below_drewN (Below.refl _ _) _).alloc (Nat.le_refl _) _ : Below w.heap.size w _).trans (hk2.below w.heap.size (Nat.le_refl _) (by simp))); clear hd2 hk2) | (go_at_call 98; refine (HSH.out w.heap.size w _ HTW.out HB2.out (Nat.le_refl _) HD2.out).mono ?_; rintro e w3 ⟨rfl, hd3, hk3⟩; have HD3 := Lib.hid hd3; have HB3 := Lib.hid (HB2.out.trans (hk3.below w.heap.size (Nat.le_refl _) HB2.out.size)); clear hd3 hk3))
      obtain ⟨d3, hd3, hd3'⟩ := HD3.out
      have c3 := hd3.dp
      clear hd3 hd3'
      go_upto_region 90 with (go_at_call 99; refine (HRO.out w.heap.size _ HD3.out).mono ?_; rintro e w4 ⟨rfl, hd4, hk4⟩; have HD4 := Lib.hid hd4; have HB4 := Lib.hid (HB3.out.trans (hk4.below w.heap.size (Nat.le_refl _) HB3.out.size)); clear hd4 hk4)
      clear c3
      obtain ⟨d4, hd4, hd4'⟩ := HD4.out
      have c4 := hd4.dp
      have c5 := hd4.nd
      clear hd4 hd4'
      have hR4 := Lib.hid (hRB.out _ HB4.out)
      have hRN : Hid (∀ n, BRow B w v [] (w4.drewN n)) := Lib.hid (fun n => hR4.out.drewN n)
      have hDN : Hid (∀ n, Dec w.heap.size l2 dp2 tr1 (w4.drewN n)) := Lib.hid (fun n => HD4.out.drewN n)
      clear hR4 HD2 HB2 HD3 HB3 HD4 HB4 HTW HAS HSH HRO hTB hRB
      go_region_with (go_at_call 90; refine (fmtF_dec B v neg false _ l2 dp2 tr1 prec _ (hRN.out _).rebase (hDN.out _) (by omega) (by omega) (by omega) (by omega) (by omega)).mono ?_; rintro e w5 ⟨v', rfl, hR5⟩; have HR5 := Lib.hid ((hRN.out _).join hR5); clear hR5)
      all_goals
        go_wp2_with (fail)
        go_ret
        exact ⟨_, rfl, HR5.out⟩
  · subst g2
    rcases hDg with ⟨q1, q2⟩ | ⟨q1, T, q2, q3⟩
    · have hexn : decide (0 ≤ ex) = true := by simp; omega
      go_enter Tryz.func85, Tryz.ntmps85
      go_upto_region 14 with (fail)
      go_quiet (fail)
      go_upto_region 76 with (first | (go_at_call 95; refine (log10_any _ _ (by omega) (by omega)).mono ?_; rintro e w' ⟨rfl, rfl⟩))
      clear h1 h2 h3 h5 hE2 g1 g3 hM1 hr87 copt
      go_upto_region 84 with (first | (go_at_call 97; refine (HAS.out w.heap.size _ (newDec (w.drewN _)) (by simp)).mono ?_; rintro e w2 ⟨rfl, hd2, hk2⟩; have HD2 := Lib.hid hd2; have HB2 := Lib.hid (((below_drewN (Below.refl _ _) _).alloc (Nat.le_refl _) _ : Below w.heap.size w _).trans (hk2.below w.heap.size (Nat.le_refl _) (by simp))); clear hd2 hk2) | (go_at_call 98; refine (HSH.out w.heap.size w _ HTW.out HB2.out (Nat.le_refl _) HD2.out).mono ?_; rintro e w3 ⟨rfl, hd3, hk3⟩; have HD3 := Lib.hid hd3; have HB3 := Lib.hid (HB2.out.trans (hk3.below w.heap.size (Nat.le_refl _) HB2.out.size)); clear hd3 hk3))
      obtain ⟨d3, hd3, hd3'⟩ := HD3.out
      have c3 := hd3.dp
      clear hd3 hd3'
      go_upto_region 90 with (go_at_call 99; refine (HRO.out w.heap.size _ HD3.out).mono ?_; rintro e w4 ⟨rfl, hd4, hk4⟩; have HD4 := Lib.hid hd4; have HB4 := Lib.hid (HB3.out.trans (hk4.below w.heap.size (Nat.le_refl _) HB3.out.size)); clear hd4 hk4)
      clear c3
      obtain ⟨d4, hd4, hd4'⟩ := HD4.out
      have c4 := hd4.dp
      have c5 := hd4.nd
      clear hd4 hd4'
      have hR4 := Lib.hid (hRB.out _ HB4.out)
      have hRN : Hid (∀ n, BRow B w v [] (w4.drewN n)) := Lib.hid (fun n => hR4.out.drewN n)
      have hDN : Hid (∀ n, Dec w.heap.size l2 dp2 tr1 (w4.drewN n)) := Lib.hid (fun n => HD4.out.drewN n)
      clear hR4 HD2 HB2 HD3 HB3 HD4 HB4 HTW HAS HSH HRO hTB hRB
      go_region_with (go_at_call 90; refine (fmtF_dec B v neg false _ l2 dp2 tr1 prec _ (hRN.out _).rebase (hDN.out _) (by omega) (by omega) (by omega) (by omega) (by omega)).mono ?_; rintro e w5 ⟨v', rfl, hR5⟩; have HR5 := Lib.hid ((hRN.out _).join hR5); clear hR5)
      all_goals
        go_wp2_with (fail)
        go_ret
        exact ⟨_, rfl, HR5.out⟩
    · have hexn : decide (0 ≤ ex) = false := by simp; omega
      have hTl : 0 ≤ T ∧ T ≤ 1022 := by omega
      go_enter Tryz.func85, Tryz.ntmps85
      go_upto_region 14 with (fail)
      go_quiet (fail)
      go_upto_region 76 with (first | (go_at_call 95; refine (log10_any _ _ (by omega) (by omega)).mono ?_; rintro e w' ⟨rfl, rfl⟩))
      clear h1 h2 h3 h5 hE2 g1 g3 hM1 hr87 copt
      go_upto_region 84 with (first | (go_at_call 97; refine (HAS.out w.heap.size _ (newDec (w.drewN _)) (by simp)).mono ?_; rintro e w2 ⟨rfl, hd2, hk2⟩; have HD2 := Lib.hid hd2; have HB2 := Lib.hid (((below_drewN (Below.refl _ _) _).alloc (Nat.le_refl _) _ : Below w.heap.size w _).trans (hk2.below w.heap.size (Nat.le_refl _) (by simp))); clear hd2 hk2) | (go_at_call 98; refine (HSH.out w.heap.size w _ HTW.out HB2.out (Nat.le_refl _) HD2.out).mono ?_; rintro e w3 ⟨rfl, hd3, hk3⟩; have HD3 := Lib.hid hd3; have HB3 := Lib.hid (HB2.out.trans (hk3.below w.heap.size (Nat.le_refl _) HB2.out.size)); clear hd3 hk3))
      obtain ⟨d3, hd3, hd3'⟩ := HD3.out
      have c3 := hd3.dp
      clear hd3 hd3'
      go_upto_region 90 with (go_at_call 99; refine (HRO.out w.heap.size _ HD3.out).mono ?_; rintro e w4 ⟨rfl, hd4, hk4⟩; have HD4 := Lib.hid hd4; have HB4 := Lib.hid (HB3.out.trans (hk4.below w.heap.size (Nat.le_refl _) HB3.out.size)); clear hd4 hk4)
      clear c3
      obtain ⟨d4, hd4, hd4'⟩ := HD4.out
      have c4 := hd4.dp
      have c5 := hd4.nd
      clear hd4 hd4'
      have hR4 := Lib.hid (hRB.out _ HB4.out)
      have hRN : Hid (∀ n, BRow B w v [] (w4.drewN n)) := Lib.hid (fun n => hR4.out.drewN n)
      have hDN : Hid (∀ n, Dec w.heap.size l2 dp2 tr1 (w4.drewN n)) := Lib.hid (fun n => HD4.out.drewN n)
      clear hR4 HD2 HB2 HD3 HB3 HD4 HB4 HTW HAS HSH HRO hTB hRB
      go_region_with (go_at_call 90; refine (fmtF_dec B v neg false _ l2 dp2 tr1 prec _ (hRN.out _).rebase (hDN.out _) (by omega) (by omega) (by omega) (by omega) (by omega)).mono ?_; rintro e w5 ⟨v', rfl, hR5⟩; have HR5 := Lib.hid ((hRN.out _).join hR5); clear hR5)
      all_goals
        go_wp2_with (fail)
        go_ret
        exact ⟨_, rfl, HR5.out⟩
end Go.Proofs.YtokmamakmaojpaaGreatDoor

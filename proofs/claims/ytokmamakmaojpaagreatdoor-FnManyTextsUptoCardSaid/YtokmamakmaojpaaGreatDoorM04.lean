/-
  A3. internal/strconv.fixedWidthFloat at the format f.
  A6. A multiprecision decimal of internal/strconv as it lies in memory; trim.
  A7. internal/strconv.trim and the rest of the decimal's methods that only read, round or cut.
  A9. The decimal by its list of digits; trim, shouldRoundUp, RoundDown, RoundUp, Round: what they leave hangs on the digits, the point's place and the mark alone.
  A10. RoundDown, RoundUp and Round of internal/strconv's decimal.
-/
import Derived.Test.YtokmamakmaojpaaGreatDoorM01
import Derived.Test.YtokmamakmaojpaaGreatDoorM03
import Derived.Lib.Builder
set_option linter.unusedVariables false
set_option linter.unusedSimpArgs false
/- A3. -/
namespace Go.Proofs.YtokmamakmaojpaaGreatDoor
open Go.RowKit

noncomputable def divIt : Nat → Int → Int
  | 0, u => u
  | k + 1, u => divF (divIt k u)
theorem divIt_lo (u : Int) (h : 0 ≤ u) : ∀ k, 0 ≤ divIt k u
  | 0 => h
  | _ + 1 => divF_lo _

set_option maxRecDepth 100000 in
theorem fixed_a (m e prec T u1 : Int) (j k : Nat) (he0 : -1137 ≤ e) (he1 : e ≤ 960) (hd0 : 1 ≤ j) (hd1 : j ≤ 18) (hp0 : 0 ≤ prec) (hp1 : prec ≤ 20)
    (hk : (j : Int) - 1 - (e + 63) * 78913 / 262144 = (k : Int) - 348) (hTT : ((10 ^ j : Nat) : Int) = T) (hu : uscaleF m (powHi k) (powLo k) (-(e + (↑k - 348) * 108853 / 32768 + 3)) = u1)
    (hu0 : 0 ≤ u1) (hc : unminF T ≤ u1) (w : World) (hT : Tabs w) :
    Calls Tryz.prog 96 #[.int .u64 m, .int .i64 e, .int .i64 j, .int .i64 prec, .int .u8 102] w
      (Ret (.tuple #[.int .u64 (roundF (divIt (((k : Int) - 348 - 1) - prec).toNat (divF u1))), .int .i64 (-(((k : Int) - 348 - 1) - ((((k : Int) - 348 - 1) - prec).toNat : Nat)))]) w) := by
  have hk1 : k < 696 := by omega
  have hk2 : 20 ≤ k := by omega
  go_enter Tryz.func96, Tryz.ntmps96
  go_wp2_with fail
  refine (log10_any _ _ (by omega) (by omega)).mono ?_; rintro e w' ⟨rfl, rfl⟩
  go_wp2_with fail
  refine (log2_any _ _ (by omega) (by omega)).mono ?_; rintro e w' ⟨rfl, rfl⟩
  go_wp2_with fail
  refine (prescale_new w e _ k hk1 hT (by omega) (by omega) (by omega) (by omega)).mono ?_; rintro e' w' ⟨rfl, rfl⟩
  obtain ⟨W, hW⟩ : ∃ W, W = w.alloc (.cells #[.int .u64 (powHi k), .int .u64 (powLo k), .int .i64 (-(e + (↑k - 348) * 108853 / 32768 + 3))] 188) := ⟨_, rfl⟩
  have c0 : W.cell? ⟨w.heap.size, 0, none⟩ = some (.int .u64 (powHi k)) := by rw [hW]; simp
  have c1 : W.cell? ⟨w.heap.size, 1, none⟩ = some (.int .u64 (powLo k)) := by rw [hW]; simp
  have c2 : W.cell? ⟨w.heap.size, 2, none⟩ = some (.int .i64 (-(e + (↑k - 348) * 108853 / 32768 + 3))) := by rw [hW]; simp
  have hB : Below w.heap.size w W := by rw [hW]; exact (Below.refl _ _).alloc (Nat.le_refl _) _
  have hT' := hT.below hB
  rw [← hW]
  clear hW
  have ht : W.cell? ⟨1, j, none⟩ = some (.int .u64 ((10 ^ j : Nat) : Int)) := by
    have := hT'.ten.cell (g := 1) (by kernel_rfl) j (by rw [Lib.pow10Tab_length]; omega)
    rw [Lib.pow10Tab_at _ (by omega)] at this
    exact this
  rw [hTT] at ht
  go_wp2_with fail
  refine (uscale_any _ _ _ _ _ _ (by exact c0) (by exact c1) (by exact c2)).mono ?_; rintro e' w' ⟨rfl, m1, rfl⟩; rw [hu]
  clear hu hTT
  go_wp2_with (first | (go_at_call 114; refine (unmin_any _ _).mono ?_; rintro e' w' ⟨rfl, rfl⟩) | (go_at_call 115; refine (div_any _ _ hu0).mono ?_; rintro e' w' ⟨rfl, m2, rfl⟩))
  go_loopw [13, 11] (fun u p wr => ∃ i : Nat, u = .int .u64 (divIt i ((divF u1))) ∧ p = .int .i64 (((k : Int) - 348 - 1) - i) ∧ (i = 0 ∨ (i : Int) ≤ ((k : Int) - 348 - 1) - prec) ∧ ∃ q, wr = W.drewN q) (fun _ p _ => (intOf p - prec).toNat)
  case atStart => exact ⟨0, rfl, by simp, Or.inl rfl, _, rfl⟩
  case round =>
    obtain ⟨i, rfl, rfl, hi, q, rfl⟩ := hrel
    have hlo := divIt_lo ((divF u1)) (by first | exact divF_lo _ | exact hu0) i
    have hi2 : (i : Int) ≤ 2000 := by omega
    have HI := Lib.hid hi
    clear hi
    by_cases hgt : prec < ((k : Int) - 348 - 1) - i
    · go_wp2_with (go_at_call 115; refine (div_any _ _ hlo).mono ?_; rintro e' w' ⟨rfl, m2, rfl⟩)
      go_roundw
      case rel => exact ⟨i + 1, rfl, by go_num, Or.inr (by omega), _, rfl⟩
      case measure => simp [intOf]; omega
    · go_wp2_with (go_at_call 111; refine (round_any _ _).mono ?_; rintro e' w' ⟨rfl, rfl⟩)
      go_ret2
      have hi := HI.out
      have ei : i = (((k : Int) - 348 - 1) - prec).toNat := by omega
      subst ei
      exact ⟨rfl, below_drewN hB _⟩
set_option maxRecDepth 100000 in
theorem fixed_b (m e prec T u1 : Int) (j k : Nat) (he0 : -1137 ≤ e) (he1 : e ≤ 960) (hd0 : 1 ≤ j) (hd1 : j ≤ 18) (hp0 : 0 ≤ prec) (hp1 : prec ≤ 20)
    (hk : (j : Int) - 1 - (e + 63) * 78913 / 262144 = (k : Int) - 348) (hTT : ((10 ^ j : Nat) : Int) = T) (hu : uscaleF m (powHi k) (powLo k) (-(e + (↑k - 348) * 108853 / 32768 + 3)) = u1)
    (hu0 : 0 ≤ u1) (hc : u1 < unminF T) (w : World) (hT : Tabs w) :
    Calls Tryz.prog 96 #[.int .u64 m, .int .i64 e, .int .i64 j, .int .i64 prec, .int .u8 102] w
      (Ret (.tuple #[.int .u64 (roundF (divIt (((k : Int) - 348) - prec).toNat u1)), .int .i64 (-(((k : Int) - 348) - ((((k : Int) - 348) - prec).toNat : Nat)))]) w) := by
  have hk1 : k < 696 := by omega
  have hk2 : 20 ≤ k := by omega
  go_enter Tryz.func96, Tryz.ntmps96
  go_wp2_with fail
  refine (log10_any _ _ (by omega) (by omega)).mono ?_; rintro e w' ⟨rfl, rfl⟩
  go_wp2_with fail
  refine (log2_any _ _ (by omega) (by omega)).mono ?_; rintro e w' ⟨rfl, rfl⟩
  go_wp2_with fail
  refine (prescale_new w e _ k hk1 hT (by omega) (by omega) (by omega) (by omega)).mono ?_; rintro e' w' ⟨rfl, rfl⟩
  obtain ⟨W, hW⟩ : ∃ W, W = w.alloc (.cells #[.int .u64 (powHi k), .int .u64 (powLo k), .int .i64 (-(e + (↑k - 348) * 108853 / 32768 + 3))] 188) := ⟨_, rfl⟩
  have c0 : W.cell? ⟨w.heap.size, 0, none⟩ = some (.int .u64 (powHi k)) := by rw [hW]; simp
  have c1 : W.cell? ⟨w.heap.size, 1, none⟩ = some (.int .u64 (powLo k)) := by rw [hW]; simp
  have c2 : W.cell? ⟨w.heap.size, 2, none⟩ = some (.int .i64 (-(e + (↑k - 348) * 108853 / 32768 + 3))) := by rw [hW]; simp
  have hB : Below w.heap.size w W := by rw [hW]; exact (Below.refl _ _).alloc (Nat.le_refl _) _
  have hT' := hT.below hB
  rw [← hW]
  clear hW
  have ht : W.cell? ⟨1, j, none⟩ = some (.int .u64 ((10 ^ j : Nat) : Int)) := by
    have := hT'.ten.cell (g := 1) (by kernel_rfl) j (by rw [Lib.pow10Tab_length]; omega)
    rw [Lib.pow10Tab_at _ (by omega)] at this
    exact this
  rw [hTT] at ht
  go_wp2_with fail
  refine (uscale_any _ _ _ _ _ _ (by exact c0) (by exact c1) (by exact c2)).mono ?_; rintro e' w' ⟨rfl, m1, rfl⟩; rw [hu]
  clear hu hTT
  go_wp2_with (first | (go_at_call 114; refine (unmin_any _ _).mono ?_; rintro e' w' ⟨rfl, rfl⟩) | (go_at_call 115; refine (div_any _ _ hu0).mono ?_; rintro e' w' ⟨rfl, m2, rfl⟩))
  go_loopw [13, 11] (fun u p wr => ∃ i : Nat, u = .int .u64 (divIt i (u1)) ∧ p = .int .i64 (((k : Int) - 348) - i) ∧ (i = 0 ∨ (i : Int) ≤ ((k : Int) - 348) - prec) ∧ ∃ q, wr = W.drewN q) (fun _ p _ => (intOf p - prec).toNat)
  case atStart => exact ⟨0, rfl, by simp, Or.inl rfl, _, rfl⟩
  case round =>
    obtain ⟨i, rfl, rfl, hi, q, rfl⟩ := hrel
    have hlo := divIt_lo (u1) (by first | exact divF_lo _ | exact hu0) i
    have hi2 : (i : Int) ≤ 2000 := by omega
    have HI := Lib.hid hi
    clear hi
    by_cases hgt : prec < ((k : Int) - 348) - i
    · go_wp2_with (go_at_call 115; refine (div_any _ _ hlo).mono ?_; rintro e' w' ⟨rfl, m2, rfl⟩)
      go_roundw
      case rel => exact ⟨i + 1, rfl, by go_num, Or.inr (by omega), _, rfl⟩
      case measure => simp [intOf]; omega
    · go_wp2_with (go_at_call 111; refine (round_any _ _).mono ?_; rintro e' w' ⟨rfl, rfl⟩)
      go_ret2
      have hi := HI.out
      have ei : i = (((k : Int) - 348) - prec).toNat := by omega
      subst ei
      exact ⟨rfl, below_drewN hB _⟩

/-- internal/strconv.fixedWidthFloat at the format f: two numbers that hang on the arguments alone, within bounds. -/
theorem fixedWidth_ex (m e nd prec : Int) (he0 : -1137 ≤ e) (he1 : e ≤ 960) (hd0 : 1 ≤ nd) (hd1 : nd ≤ 18) (hp0 : 0 ≤ prec) (hp1 : prec ≤ 20) :
    ∃ d q, (0 ≤ d ∧ d < 4611686018427387904 ∧ -400 ≤ q ∧ q ≤ 400) ∧ ∀ w, Tabs w →
      Calls Tryz.prog 96 #[.int .u64 m, .int .i64 e, .int .i64 nd, .int .i64 prec, .int .u8 102] w (Ret (.tuple #[.int .u64 d, .int .i64 q]) w) := by
  obtain ⟨j, rfl⟩ : ∃ j : Nat, nd = j := ⟨nd.toNat, by omega⟩
  obtain ⟨k, hk⟩ : ∃ k : Nat, (j : Int) - 1 - (e + 63) * 78913 / 262144 = (k : Int) - 348 := ⟨((j : Int) - 1 - (e + 63) * 78913 / 262144 + 348).toNat, by omega⟩
  by_cases c : unminF ((10 ^ j : Nat) : Int) ≤ uscaleF m (powHi k) (powLo k) (-(e + (↑k - 348) * 108853 / 32768 + 3))
  · exact ⟨_, _, ⟨roundF_lo _, roundF_hi _, by omega, by omega⟩, fun w hT => fixed_a m e prec _ _ j k he0 he1 (by omega) (by omega) hp0 hp1 hk rfl rfl (uscaleF_lo _ _ _ _) c w hT⟩
  · exact ⟨_, _, ⟨roundF_lo _, roundF_hi _, by omega, by omega⟩, fun w hT => fixed_b m e prec _ _ j k he0 he1 (by omega) (by omega) hp0 hp1 hk rfl rfl (uscaleF_lo _ _ _ _) (by omega) w hT⟩

end Go.Proofs.YtokmamakmaojpaaGreatDoor

/- A6. -/
namespace Go.Proofs.YtokmamakmaojpaaGreatDoor
open Go.RowKit

/-- From w to w' nothing has turned but block b and new blocks. -/
structure Kp (b : Nat) (w w' : World) : Prop where
  os : w'.os = w.os
  tape : w'.tape = w.tape
  output : w'.output = w.output
  size : w.heap.size ≤ w'.heap.size
  block : ∀ k, k < w.heap.size → k ≠ b → w'.heap[k]? = w.heap[k]?
theorem Kp.refl (b : Nat) (w : World) : Kp b w w := ⟨rfl, rfl, rfl, Nat.le_refl _, fun _ _ _ => rfl⟩
theorem Kp.trans {b : Nat} {w1 w2 w3 : World} (h : Kp b w1 w2) (k : Kp b w2 w3) : Kp b w1 w3 :=
  ⟨k.os.trans h.os, k.tape.trans h.tape, k.output.trans h.output, Nat.le_trans h.size k.size, fun i hi hb => (k.block i (Nat.lt_of_lt_of_le hi h.size) hb).trans (h.block i hi hb)⟩
theorem Kp.drewN {b : Nat} {w w' : World} (h : Kp b w w') (n : Nat) : Kp b w (w'.drewN n) := ⟨h.os, h.tape, h.output, h.size, h.block⟩
theorem Kp.setCell {b : Nat} {w w' : World} (h : Kp b w w') (o : Nat) (v : Value) : Kp b w (w'.setCell ⟨b, o, none⟩ v) :=
  h.trans ⟨rfl, rfl, rfl, by simp [World.setCell], fun k _ hk => Below.heap_setCell _ _ _ _ hk⟩
theorem Kp.alloc {b : Nat} {w w' : World} (h : Kp b w w') (o : Obj) : Kp b w (w'.alloc o) :=
  h.trans ⟨rfl, rfl, rfl, by simp, fun k hk _ => Below.heap_alloc _ _ _ hk⟩
theorem Kp.of_below {b B : Nat} {w w1 w2 : World} (h : Kp b w w1) (hb : Below B w1 w2) (hB : w.heap.size ≤ B) : Kp b w w2 :=
  ⟨hb.os.trans h.os, hb.tape.trans h.tape, hb.output.trans h.output, Nat.le_trans h.size hb.size, fun k hk hk2 => (hb.block k (Nat.lt_of_lt_of_le hk hB)).trans (h.block k hk hk2)⟩
theorem Kp.below {b : Nat} {w w' : World} (h : Kp b w w') (B : Nat) (hB : B ≤ b) (hB2 : B ≤ w.heap.size) : Below B w w' :=
  ⟨h.os, h.tape, h.output, h.size, fun k hk => h.block k (by omega) (by omega)⟩

/-- Block b is a decimal: the digits' places, how many count, the point's place, whether something was cut off. -/
structure DecD (b : Nat) (d : Nat → UInt8) (nd : Nat) (dp : Int) (tr : Bool) (w : World) : Prop where
  at_ : ∃ cs, w.heap[b]? = some (.cells cs 181 (0, 0)) ∧ cs.size = 804 ∧ (∀ i, i < 800 → cs[i]? = some (.int .u8 ((d i).toNat : Int))) ∧ cs[800]? = some (.int .i64 nd) ∧ cs[801]? = some (.int .i64 dp) ∧ cs[803]? = some (.bool tr)

theorem DecD.digit {b : Nat} {d : Nat → UInt8} {nd : Nat} {dp : Int} {tr : Bool} {w : World} (h : DecD b d nd dp tr w) (i : Nat) (hi : i < 800) : w.cell? ⟨b, i, none⟩ = some (.int .u8 ((d i).toNat : Int)) := by
  obtain ⟨cs, h1, h2, h3, _⟩ := h.at_
  rw [Lib.cell_of_heap h1]
  exact h3 i hi
theorem DecD.nd {b : Nat} {d : Nat → UInt8} {nd : Nat} {dp : Int} {tr : Bool} {w : World} (h : DecD b d nd dp tr w) : w.cell? ⟨b, 800, none⟩ = some (.int .i64 nd) := by
  obtain ⟨cs, h1, h2, h3, h4, _⟩ := h.at_
  rw [Lib.cell_of_heap h1]
  exact h4
theorem DecD.dp {b : Nat} {d : Nat → UInt8} {nd : Nat} {dp : Int} {tr : Bool} {w : World} (h : DecD b d nd dp tr w) : w.cell? ⟨b, 801, none⟩ = some (.int .i64 dp) := by
  obtain ⟨cs, h1, h2, h3, h4, h5, _⟩ := h.at_
  rw [Lib.cell_of_heap h1]
  exact h5
theorem DecD.tr {b : Nat} {d : Nat → UInt8} {nd : Nat} {dp : Int} {tr : Bool} {w : World} (h : DecD b d nd dp tr w) : w.cell? ⟨b, 803, none⟩ = some (.bool tr) := by
  obtain ⟨cs, h1, h2, h3, h4, h5, h6⟩ := h.at_
  rw [Lib.cell_of_heap h1]
  exact h6
theorem DecD.frozen {b : Nat} {d : Nat → UInt8} {nd : Nat} {dp : Int} {tr : Bool} {w : World} (h : DecD b d nd dp tr w) (o : Nat) : w.frozen? ⟨b, o, none⟩ = false := by
  obtain ⟨cs, h1, _⟩ := h.at_
  exact Lib.frozen_of_heap h1 o
theorem DecD.drewN {b : Nat} {d : Nat → UInt8} {nd : Nat} {dp : Int} {tr : Bool} {w : World} (h : DecD b d nd dp tr w) (n : Nat) : DecD b d nd dp tr (w.drewN n) := ⟨h.at_⟩
theorem DecD.drew {b : Nat} {d : Nat → UInt8} {nd : Nat} {dp : Int} {tr : Bool} {w : World} (h : DecD b d nd dp tr w) : DecD b d nd dp tr w.drew := ⟨h.at_⟩
theorem Kp.drew {b : Nat} {w w' : World} (h : Kp b w w') : Kp b w w'.drew := ⟨h.os, h.tape, h.output, h.size, h.block⟩
theorem DecD.heap {b : Nat} {d : Nat → UInt8} {nd : Nat} {dp : Int} {tr : Bool} {w w' : World} (h : DecD b d nd dp tr w) (e : w'.heap[b]? = w.heap[b]?) : DecD b d nd dp tr w' := by
  obtain ⟨cs, h1, h2⟩ := h.at_
  exact ⟨cs, e.trans h1, h2⟩
theorem heap_setCell_cells {w : World} {b o : Nat} {cs : Array Value} {t : TypeId} {f : Nat × Nat} (h : w.heap[b]? = some (.cells cs t f)) (v : Value) : (w.setCell ⟨b, o, none⟩ v).heap[b]? = some (.cells (cs.setIfInBounds o v) t f) := by
  simp [World.setCell, Array.getElem?_modify, h]
def upd (d : Nat → UInt8) (i : Nat) (c : UInt8) : Nat → UInt8 := fun j => if j = i then c else d j
theorem DecD.setD {b : Nat} {d : Nat → UInt8} {nd : Nat} {dp : Int} {tr : Bool} {w : World} (h : DecD b d nd dp tr w) (i : Nat) (hi : i < 800) (c : UInt8) : DecD b (upd d i c) nd dp tr (w.setCell ⟨b, i, none⟩ (.int .u8 (c.toNat : Int))) := by
  obtain ⟨cs, h1, h2, h3, h4, h5, h6⟩ := h.at_
  refine ⟨_, heap_setCell_cells h1 _, by simpa using h2, fun j hj => ?_, ?_, ?_, ?_⟩
  · rw [Array.getElem?_setIfInBounds]
    by_cases e : i = j
    · subst e; simp [upd, h2]; omega
    · rw [if_neg e, h3 j hj, upd, if_neg (fun x => e x.symm)]
  · rw [Array.getElem?_setIfInBounds, if_neg (by omega)]; exact h4
  · rw [Array.getElem?_setIfInBounds, if_neg (by omega)]; exact h5
  · rw [Array.getElem?_setIfInBounds, if_neg (by omega)]; exact h6
theorem DecD.setNd {b : Nat} {d : Nat → UInt8} {nd : Nat} {dp : Int} {tr : Bool} {w : World} (h : DecD b d nd dp tr w) (n : Nat) : DecD b d n dp tr (w.setCell ⟨b, 800, none⟩ (.int .i64 (n : Int))) := by
  obtain ⟨cs, h1, h2, h3, h4, h5, h6⟩ := h.at_
  refine ⟨_, heap_setCell_cells h1 _, by simpa using h2, fun j hj => ?_, ?_, ?_, ?_⟩
  · rw [Array.getElem?_setIfInBounds, if_neg (by omega)]; exact h3 j hj
  · rw [Array.getElem?_setIfInBounds, if_pos rfl, if_pos (by omega)]
  · rw [Array.getElem?_setIfInBounds, if_neg (by omega)]; exact h5
  · rw [Array.getElem?_setIfInBounds, if_neg (by omega)]; exact h6
theorem DecD.setDp {b : Nat} {d : Nat → UInt8} {nd : Nat} {dp : Int} {tr : Bool} {w : World} (h : DecD b d nd dp tr w) (n : Int) : DecD b d nd n tr (w.setCell ⟨b, 801, none⟩ (.int .i64 n)) := by
  obtain ⟨cs, h1, h2, h3, h4, h5, h6⟩ := h.at_
  refine ⟨_, heap_setCell_cells h1 _, by simpa using h2, fun j hj => ?_, ?_, ?_, ?_⟩
  · rw [Array.getElem?_setIfInBounds, if_neg (by omega)]; exact h3 j hj
  · rw [Array.getElem?_setIfInBounds, if_neg (by omega)]; exact h4
  · rw [Array.getElem?_setIfInBounds, if_pos rfl, if_pos (by omega)]
  · rw [Array.getElem?_setIfInBounds, if_neg (by omega)]; exact h6
theorem DecD.setTr {b : Nat} {d : Nat → UInt8} {nd : Nat} {dp : Int} {tr : Bool} {w : World} (h : DecD b d nd dp tr w) (t : Bool) : DecD b d nd dp t (w.setCell ⟨b, 803, none⟩ (.bool t)) := by
  obtain ⟨cs, h1, h2, h3, h4, h5, h6⟩ := h.at_
  refine ⟨_, heap_setCell_cells h1 _, by simpa using h2, fun j hj => ?_, ?_, ?_, ?_⟩
  · rw [Array.getElem?_setIfInBounds, if_neg (by omega)]; exact h3 j hj
  · rw [Array.getElem?_setIfInBounds, if_neg (by omega)]; exact h4
  · rw [Array.getElem?_setIfInBounds, if_neg (by omega)]; exact h5
  · rw [Array.getElem?_setIfInBounds, if_pos rfl, if_pos (by omega)]
theorem DecD.congr {b : Nat} {d d' : Nat → UInt8} {nd : Nat} {dp : Int} {tr : Bool} {w : World} (h : DecD b d nd dp tr w) (e : ∀ i, i < 800 → d i = d' i) : DecD b d' nd dp tr w := by
  obtain ⟨cs, h1, h2, h3, h4⟩ := h.at_
  exact ⟨cs, h1, h2, fun i hi => by rw [h3 i hi, e i hi], h4⟩

/-- Without the noughts at the end. -/
def trimF (d : Nat → UInt8) : Nat → Nat
  | 0 => 0
  | n + 1 => if d n = 48 then trimF d n else n + 1
theorem trimF_le (d : Nat → UInt8) : ∀ n, trimF d n ≤ n
  | 0 => Nat.le_refl _
  | n + 1 => by
    have := trimF_le d n
    unfold trimF
    split <;> omega
def trimDp (d : Nat → UInt8) (n : Nat) (dp : Int) : Int := if trimF d n = 0 then 0 else dp

end Go.Proofs.YtokmamakmaojpaaGreatDoor

/- A7. -/
namespace Go.Proofs.YtokmamakmaojpaaGreatDoor
open Go.RowKit

theorem u8_of_int {c : UInt8} {n : Nat} (h : (c.toNat : Int) = ((UInt8.ofNat n).toNat : Int)) : c = UInt8.ofNat n := UInt8.toNat_inj.1 (by omega)

theorem trim_any (b : Nat) (d : Nat → UInt8) (n : Nat) (dp : Int) (tr : Bool) (w : World) (h : DecD b d n dp tr w) (hn : n ≤ 800) :
    Calls Tryz.prog 116 #[.pointer (some ⟨b, 0, none⟩)] w fun e w' => e = .returned (.tuple #[]) ∧ DecD b d (trimF d n) (trimDp d n dp) tr w' ∧ Kp b w w' := by
  go_enter Tryz.func116, Tryz.ntmps116
  go_wp2_with (fail)
  go_loopg [] n (fun g wr => DecD b d g dp tr wr ∧ Hid (trimF d g = trimF d n) ∧ g ≤ 800 ∧ Kp b w wr)
  case atStart => exact ⟨h, rfl, hn, Kp.refl _ _⟩
  case round =>
    obtain ⟨hD, hE, hg, hK⟩ := hrel
    have cdp := hD.dp
    have f0 := hD.frozen 800
    have f1 := hD.frozen 801
    cases gk with
    | zero =>
      have c0 : wr.cell? ⟨b, 800, none⟩ = some (.int .i64 0) := hD.nd
      have e0 : trimF d n = 0 := by rw [← hE.out]; rfl
      have HE0 := Lib.hid e0
      clear e0 hE
      go_wp2_with (fail)
      go_quiet (fail)
      go_wp2_with (fail)
      go_end0
      refine ⟨rfl, ?_, ?_⟩
      · unfold trimDp
        rw [HE0.out, if_pos rfl]
        exact (hD.drewN _).setDp 0
      · exact (hK.drewN _).setCell _ _
    | succ m =>
      have c0 : wr.cell? ⟨b, 800, none⟩ = some (.int .i64 ((m : Int) + 1)) := hD.nd
      have c1 := hD.digit m (by omega)
      obtain ⟨c, hc⟩ : ∃ c : Int, ((d m).toNat : Int) = c := ⟨_, rfl⟩
      rw [hc] at c1
      have HC := Lib.hid hc
      clear hc
      by_cases h48 : c = 48
      · have hb : (c == 48) = true := by simpa using h48
        have H48 := Lib.hid h48
        clear h48
        go_wp2_with (fail)
        go_quiet (fail)
        go_wp2_with (fail)
        go_roundg m
        case measure => omega
        case rel =>
          have e48 : d m = 48 := u8_of_int (HC.out.trans H48.out)
          refine ⟨(hD.drewN _).setNd m, ?_, by omega, (hK.drewN _).setCell _ _⟩
          have e1 : trimF d (m + 1) = trimF d m := by rw [trimF, if_pos e48]
          exact e1.symm.trans hE.out
      · have hb : (c == 48) = false := by simpa using h48
        have H48 := Lib.hid h48
        clear h48
        go_wp2_with (fail)
        go_quiet (fail)
        go_wp2_with (fail)
        go_end0
        have e48 : d m ≠ 48 := fun e => H48.out (by rw [← HC.out, e]; rfl)
        have e1 : trimF d n = m + 1 := by rw [← hE.out, trimF, if_neg e48]
        refine ⟨rfl, ?_, hK.drewN _⟩
        unfold trimDp
        rw [e1, if_neg (by omega)]
        exact hD.drewN _
end Go.Proofs.YtokmamakmaojpaaGreatDoor

/- A9. -/
namespace Go.Proofs.YtokmamakmaojpaaGreatDoor
open Go.RowKit

/-- Block b is a decimal that has the digits l. -/
def Dec (b : Nat) (l : List UInt8) (dp : Int) (tr : Bool) (w : World) : Prop := ∃ d, DecD b d l.length dp tr w ∧ ∀ i, i < l.length → l[i]? = some (d i)

theorem trimF_eq : ∀ (l : List UInt8) (d : Nat → UInt8), (∀ i, i < l.length → l[i]? = some (d i)) → trimF d l.length = trimN l := by
  intro l d h
  have key : ∀ n, n ≤ l.length → (∀ j, n ≤ j → j < l.length → l[j]? = some 48) → trimF d n = trimN l := by
    intro n
    induction n with
    | zero => intro hn hz; exact trimN_unique l 0 hn hz (Or.inl rfl)
    | succ n ih =>
      intro hn hz
      unfold trimF
      by_cases e : d n = 48
      · rw [if_pos e]
        refine ih (by omega) fun j h0 h1 => ?_
        rcases Nat.eq_or_lt_of_le h0 with hj | hj
        · subst hj; rw [h n h1, e]
        · exact hz j hj h1
      · rw [if_neg e]
        refine trimN_unique l (n + 1) hn hz (Or.inr ?_)
        rw [Nat.add_sub_cancel, h n (by omega)]
        intro x
        exact e (Option.some.inj x)
  exact key l.length (Nat.le_refl _) fun j h0 h1 => by omega

/-- The digits without the noughts at their end. -/
def trimL (l : List UInt8) : List UInt8 := l.take (trimN l)
theorem trimL_length (l : List UInt8) : (trimL l).length = trimN l := by
  have := trimN_le l
  unfold trimL
  rw [List.length_take]
  omega
def trimP (l : List UInt8) (dp : Int) : Int := if trimN l = 0 then 0 else dp

theorem trim_dec (b : Nat) (l : List UInt8) (dp : Int) (tr : Bool) (w : World) (h : Dec b l dp tr w) (hn : l.length ≤ 800) :
    Calls Tryz.prog 116 #[.pointer (some ⟨b, 0, none⟩)] w fun e w' => e = .returned (.tuple #[]) ∧ Dec b (trimL l) (trimP l dp) tr w' ∧ Kp b w w' := by
  obtain ⟨d, h1, h2⟩ := h
  refine (trim_any b d l.length dp tr w h1 hn).mono fun e w' ⟨he, hD, hK⟩ => ⟨he, ⟨d, ?_, ?_⟩, hK⟩
  · unfold trimDp at hD
    rw [trimF_eq l d h2] at hD
    rw [trimL_length]
    exact hD
  · intro i hi
    rw [trimL_length] at hi
    have := trimN_le l
    unfold trimL
    rw [List.getElem?_take, if_pos hi]
    exact h2 i (by omega)

theorem shouldRoundUp_ex (l : List UInt8) (tr : Bool) (k : Nat) (hk : k < l.length) (hl : l.length ≤ 800) :
    ∃ r, ∀ b dp w, Dec b l dp tr w → Calls Tryz.prog 119 #[.pointer (some ⟨b, 0, none⟩), .int .i64 k] w (Same (.bool r) w) := by
  have hklt : decide ((k : Int) < 0) = false := by simp
  have hgek : decide ((l.length : Int) ≤ (k : Int)) = false := by simp; omega
  obtain ⟨c, hc⟩ : ∃ c, l[k]? = some c := ⟨_, List.getElem?_eq_getElem hk⟩
  obtain ⟨ci, hci⟩ : ∃ ci : Int, (c.toNat : Int) = ci := ⟨_, rfl⟩
  have fact : ∀ b dp w (d : Nat → UInt8), DecD b d l.length dp tr w → (∀ i, i < l.length → l[i]? = some (d i)) → w.cell? ⟨b, k, none⟩ = some (.int .u8 ci) := by
    intro b dp w d hD hd
    have c1 := hD.digit k (by omega)
    have hdk : d k = c := by have := hd k hk; rw [hc] at this; exact (Option.some.inj this).symm
    rw [hdk, hci] at c1
    exact c1
  have HF := Lib.hid fact
  clear hc hci fact
  by_cases h5 : ci = 53
  · have hb5 : (ci == 53) = true := by simpa using h5
    have hg5 : decide (53 ≤ ci) = true := by simp; omega
    clear h5
    by_cases hend : k + 1 = l.length
    · have hb : ((k : Int) + 1 == (l.length : Int)) = true := by simp; omega
      cases tr
      · by_cases hk0 : k = 0
        · have hkd : decide ((0 : Int) < (k : Int)) = false := by simp; omega
          have hkd2 : decide (0 < k) = false := by simp; omega
          clear hk0 hend
          refine ⟨false, fun b dp w ⟨d, hD, hd⟩ => ?_⟩
          have c0 := hD.nd
          have c1 := HF.out _ _ _ _ hD hd
          have c2 := hD.tr
          clear hD hd
          go_enter Tryz.func119, Tryz.ntmps119
          go_wp2
          go_ret
          exact Same.mk
        · have hk1 : 0 < k := by omega
          have hkd : decide ((0 : Int) < (k : Int)) = true := by simp; omega
          obtain ⟨p, hp⟩ : ∃ p, l[k - 1]? = some p := ⟨_, List.getElem?_eq_getElem (by omega)⟩
          clear hk0 hend
          apply Exists.intro
          intro b dp w ⟨d, hD, hd⟩
          have c0 := hD.nd
          have c1 := HF.out _ _ _ _ hD hd
          have c2 := hD.tr
          have c3 := hD.digit (k - 1) (by omega)
          have hdk : d (k - 1) = p := by have := hd (k - 1) (by omega); rw [hp] at this; exact (Option.some.inj this).symm
          rw [hdk] at c3
          clear hD hd hdk
          go_enter Tryz.func119, Tryz.ntmps119
          go_wp2
          go_ret
          exact Same.mk
      · refine ⟨true, fun b dp w ⟨d, hD, hd⟩ => ?_⟩
        have c0 := hD.nd
        have c1 := HF.out _ _ _ _ hD hd
        have c2 := hD.tr
        clear hD hd hend
        go_enter Tryz.func119, Tryz.ntmps119
        go_wp2
        go_ret
        exact Same.mk
    · have hb : ((k : Int) + 1 == (l.length : Int)) = false := by simp; omega
      refine ⟨true, fun b dp w ⟨d, hD, hd⟩ => ?_⟩
      have c0 := hD.nd
      have c1 := HF.out _ _ _ _ hD hd
      have c2 := hD.tr
      clear hD hd hend
      go_enter Tryz.func119, Tryz.ntmps119
      go_wp2
      go_ret
      exact Same.mk
  · have hb5 : (ci == 53) = false := by simpa using h5
    refine ⟨decide (53 ≤ ci), fun b dp w ⟨d, hD, hd⟩ => ?_⟩
    have c0 := hD.nd
    have c1 := HF.out _ _ _ _ hD hd
    have c2 := hD.tr
    clear hD hd h5
    go_enter Tryz.func119, Tryz.ntmps119
    go_wp2
    go_ret
    exact Same.mk
end Go.Proofs.YtokmamakmaojpaaGreatDoor

/- A10. -/
namespace Go.Proofs.YtokmamakmaojpaaGreatDoor
open Go.RowKit

theorem roundDown_dec (b : Nat) (l : List UInt8) (dp : Int) (tr : Bool) (k : Nat) (hk : k < l.length) (hl : l.length ≤ 800) (w : World) (h : Dec b l dp tr w) :
    Calls Tryz.prog 121 #[.pointer (some ⟨b, 0, none⟩), .int .i64 k] w fun e w' => e = .returned (.tuple #[]) ∧ Dec b (trimL (l.take k)) (trimP (l.take k) dp) tr w' ∧ Kp b w w' := by
  have hklt : decide ((k : Int) < 0) = false := by simp
  have hgek : decide ((l.length : Int) ≤ (k : Int)) = false := by simp; omega
  obtain ⟨d, hD, hd⟩ := h
  have c0 := hD.nd
  have f0 := hD.frozen 800
  have hlen : (l.take k).length = k := by rw [List.length_take]; omega
  have h2 : Dec b (l.take k) dp tr (w.setCell ⟨b, 800, none⟩ (.int .i64 (k : Int))) :=
    ⟨d, by rw [hlen]; exact hD.setNd k, fun i hi => by rw [hlen] at hi; rw [List.getElem?_take, if_pos hi]; exact hd i (by omega)⟩
  have key := trim_dec b (l.take k) dp tr _ h2 (by omega)
  have HK := Lib.hid key
  have HK1 := Lib.hid ((Kp.refl b w).setCell 800 (.int .i64 (k : Int)))
  clear key h2 hlen hD hd
  go_enter Tryz.func121, Tryz.ntmps121
  go_wp2_with (go_at_call 116; refine HK.out.mono ?_; rintro e w' ⟨rfl, h3, h4⟩; have H3 := Lib.hid h3; have H4 := Lib.hid h4; clear h3 h4)
  go_end0
  exact ⟨rfl, H3.out, HK1.out.trans H4.out⟩

/-- The last place ahead of k that holds no nine, or there is none. -/
theorem last_no_nine (l : List UInt8) : ∀ k, k ≤ l.length → (∀ i, i < k → 57 ≤ (l.getD i 0).toNat) ∨ ∃ j, j < k ∧ (l.getD j 0).toNat < 57 ∧ ∀ i, j < i → i < k → 57 ≤ (l.getD i 0).toNat
  | 0, _ => Or.inl fun i hi => by omega
  | k + 1, hk => by
    by_cases h : (l.getD k 0).toNat < 57
    · exact Or.inr ⟨k, by omega, h, fun i h0 h1 => by omega⟩
    · rcases last_no_nine l k (by omega) with h0 | ⟨j, h0, h1, h2⟩
      · left
        intro i hi
        rcases Nat.eq_or_lt_of_le (Nat.le_of_lt_succ hi) with e | e
        · subst e; omega
        · exact h0 i e
      · right
        refine ⟨j, by omega, h1, fun i hj hi => ?_⟩
        rcases Nat.eq_or_lt_of_le (Nat.le_of_lt_succ hi) with e | e
        · subst e; omega
        · exact h2 i hj e

theorem getD_of {l : List UInt8} {i : Nat} {c : UInt8} (h : l[i]? = some c) : l.getD i 0 = c := by rw [List.getD_eq_getElem?_getD, h]; rfl

set_option maxHeartbeats 1000000 in
theorem roundUp_a (l : List UInt8) (dp : Int) (tr : Bool) (k j : Nat) (hk : k < l.length) (hl : l.length ≤ 800) (hj : j < k) (h57 : (l.getD j 0).toNat < 57) (hall : ∀ i, j < i → i < k → 57 ≤ (l.getD i 0).toNat) (b : Nat) (w : World) (h : Dec b l dp tr w) :
    Calls Tryz.prog 120 #[.pointer (some ⟨b, 0, none⟩), .int .i64 k] w fun e w' => e = .returned (.tuple #[]) ∧ Dec b (l.take j ++ [l.getD j 0 + 1]) dp tr w' ∧ Kp b w w' := by
  have hklt : decide ((k : Int) < 0) = false := by simp
  have hgek : decide ((l.length : Int) ≤ (k : Int)) = false := by simp; omega
  obtain ⟨d, hD, hd⟩ := h
  have c0 := hD.nd
  have f0 := hD.frozen 800
  have f1 := hD.frozen j
  have HD := Lib.hid hD
  have Hd := Lib.hid hd
  have HA := Lib.hid hall
  have H57 := Lib.hid h57
  clear hD hd hall h57
  go_enter Tryz.func120, Tryz.ntmps120
  go_wp2_with (fail)
  go_loopg [4, 5] k (fun g v4 _ wr => wr = w ∧ v4 = .int .i64 ((g : Int) - 1) ∧ j < g ∧ g ≤ k)
  case atStart => exact ⟨rfl, rfl, hj, Nat.le_refl _⟩
  case round =>
    obtain ⟨rfl, rfl, hg0, hg1⟩ := hrel
    obtain ⟨m, rfl⟩ : ∃ m, gk = m + 1 := ⟨gk - 1, by omega⟩
    have em : ((m + 1 : Nat) : Int) - 1 = (m : Int) := by omega
    rw [em]
    clear em
    have c1 := HD.out.digit m (by omega)
    obtain ⟨c, hc⟩ : ∃ c : Int, ((d m).toNat : Int) = c := ⟨_, rfl⟩
    rw [hc] at c1
    have HC := Lib.hid hc
    clear hc
    have hm := getD_of (Hd.out m (by omega))
    by_cases hmj : m = j
    · subst hmj
      have hlt : c < 57 := by have := H57.out; rw [hm] at this; have := HC.out; omega
      have hc0 : 0 ≤ c := by have := HC.out; omega
      clear hm
      go_wp2_with (fail)
      have hlen : (l.take m ++ [l.getD m 0 + 1]).length = m + 1 := by rw [List.length_append, List.length_take, List.length_singleton]; omega
      go_region
      go_wp2_with (fail)
      refine bodyPost_ret (results_none rfl _ _ _) rfl ⟨rfl, ?_, ?_⟩
      · have hx : c + 1 = (((d m) + 1).toNat : Int) := by
          have := HC.out
          rw [UInt8.toNat_add]
          have e1 : (1 : UInt8).toNat = 1 := rfl
          rw [e1]
          omega
        have hg := getD_of (Hd.out m (by omega))
        rw [hx, show ((m : Int) + 1) = ((m + 1 : Nat) : Int) from by omega]
        refine ⟨upd d m (d m + 1), by rw [hlen]; exact ((HD.out.setD m (by omega) _).setNd (m + 1)).drew, fun i hi => ?_⟩
        rw [hlen] at hi
        rcases Nat.eq_or_lt_of_le (Nat.le_of_lt_succ hi) with e | e
        · subst e
          rw [List.getElem?_append_right (by rw [List.length_take]; omega), List.length_take, show i - min i l.length = 0 by omega, hg]
          simp [upd]
        · rw [List.getElem?_append_left (by rw [List.length_take]; omega), List.getElem?_take, if_pos e, Hd.out i (by omega), upd, if_neg (by omega)]
      · exact (((Kp.refl b wr).setCell _ _).setCell _ _).drew
    · have hge : 57 ≤ c := by have := HA.out m (by omega) (by omega); rw [hm] at this; have := HC.out; omega
      clear hm
      go_wp2_with (fail)
      go_roundg m
      case measure => omega
      case rel => exact ⟨rfl, by go_num, by omega, by omega⟩

set_option maxHeartbeats 1000000 in
theorem roundUp_b (l : List UInt8) (dp : Int) (tr : Bool) (k : Nat) (hk : k < l.length) (hl : l.length ≤ 800) (hdp0 : -2000 ≤ dp) (hdp1 : dp ≤ 2000) (hall : ∀ i, i < k → 57 ≤ (l.getD i 0).toNat) (b : Nat) (w : World) (h : Dec b l dp tr w) :
    Calls Tryz.prog 120 #[.pointer (some ⟨b, 0, none⟩), .int .i64 k] w fun e w' => e = .returned (.tuple #[]) ∧ Dec b [49] (dp + 1) tr w' ∧ Kp b w w' := by
  have hklt : decide ((k : Int) < 0) = false := by simp
  have hgek : decide ((l.length : Int) ≤ (k : Int)) = false := by simp; omega
  obtain ⟨d, hD, hd⟩ := h
  have c0 := hD.nd
  have cz := hD.digit 0 (by omega)
  have cdp := hD.dp
  have f0 := hD.frozen 800
  have f1 := hD.frozen 0
  have f2 := hD.frozen 801
  have HD := Lib.hid hD
  have Hd := Lib.hid hd
  have HA := Lib.hid hall
  clear hD hd hall
  go_enter Tryz.func120, Tryz.ntmps120
  go_wp2_with (fail)
  go_loopg [4, 5] k (fun g v4 _ wr => wr = w ∧ v4 = .int .i64 ((g : Int) - 1) ∧ g ≤ k)
  case atStart => exact ⟨rfl, rfl, Nat.le_refl _⟩
  case round =>
    obtain ⟨rfl, rfl, hg1⟩ := hrel
    cases gk with
    | zero =>
      have em : ((0 : Nat) : Int) - 1 = -1 := by omega
      rw [em]
      clear em
      go_wp2_with (fail)
      go_end0
      refine ⟨rfl, ?_, ?_⟩
      · refine ⟨upd d 0 49, ((HD.out.setD 0 (by omega) 49).setNd 1).setDp (dp + 1), fun i hi => ?_⟩
        obtain rfl : i = 0 := by simpa using hi
        rfl
      · exact ((((Kp.refl b wr).setCell _ _).setCell _ _).setCell _ _)
    | succ m =>
      have em : ((m + 1 : Nat) : Int) - 1 = (m : Int) := by omega
      rw [em]
      clear em
      have c1 := HD.out.digit m (by omega)
      obtain ⟨c, hc⟩ : ∃ c : Int, ((d m).toNat : Int) = c := ⟨_, rfl⟩
      rw [hc] at c1
      have HC := Lib.hid hc
      clear hc
      have hge : 57 ≤ c := by have := HA.out m (by omega); rw [getD_of (Hd.out m (by omega))] at this; have := HC.out; omega
      go_wp2_with (fail)
      go_roundg m
      case measure => omega
      case rel => exact ⟨rfl, by go_num, by omega⟩

/-- RoundUp: digits that are none but what l and k tell. -/
theorem roundUp_ex (l : List UInt8) (dp : Int) (tr : Bool) (k : Nat) (hk : k < l.length) (hl : l.length ≤ 800) (hdp0 : -2000 ≤ dp) (hdp1 : dp ≤ 2000) (hdig : ∀ c ∈ l, isDig c) :
    ∃ l' dp', (l'.length ≤ 800 ∧ dp ≤ dp' ∧ dp' ≤ dp + 1 ∧ ∀ c ∈ l', isDig c) ∧ ∀ b w, Dec b l dp tr w →
      Calls Tryz.prog 120 #[.pointer (some ⟨b, 0, none⟩), .int .i64 k] w fun e w' => e = .returned (.tuple #[]) ∧ Dec b l' dp' tr w' ∧ Kp b w w' := by
  rcases last_no_nine l k (by omega) with h | ⟨j, h0, h1, h2⟩
  · exact ⟨[49], dp + 1, ⟨by simp, by omega, by omega, fun c hc => by simp at hc; subst hc; exact ⟨by decide, by decide⟩⟩, fun b w hD => roundUp_b l dp tr k hk hl hdp0 hdp1 h b w hD⟩
  · refine ⟨l.take j ++ [l.getD j 0 + 1], dp, ⟨by rw [List.length_append, List.length_take, List.length_singleton]; omega, by omega, by omega, fun c hc => ?_⟩, fun b w hD => roundUp_a l dp tr k j hk hl h0 h1 h2 b w hD⟩
    rw [List.mem_append] at hc
    rcases hc with hc | hc
    · exact hdig c (List.mem_of_mem_take hc)
    · simp only [List.mem_singleton] at hc
      have hm : isDig (l.getD j 0) := hdig _ (by rw [List.getD_eq_getElem?_getD, List.getElem?_eq_getElem (by omega)]; exact List.getElem_mem _)
      subst hc
      have e1 : (1 : UInt8).toNat = 1 := rfl
      unfold isDig at hm ⊢
      rw [UInt8.toNat_add, e1]
      omega

theorem trimN_zero_mem (l : List UInt8) (c : UInt8) (h : c ∈ trimL l) : c ∈ l := List.mem_of_mem_take h

/-- Round: digits that are none but what the decimal and k tell. -/
theorem round_ex (l : List UInt8) (dp : Int) (tr : Bool) (k : Int) (hl : l.length ≤ 800) (hk0 : -3000 ≤ k) (hk1 : k ≤ 3000) (hdp0 : -1500 ≤ dp) (hdp1 : dp ≤ 1500) (lo hi : Int) (hlo : lo ≤ dp) (hlo0 : lo ≤ 0) (hhi : dp + 1 ≤ hi) (hhi0 : 0 ≤ hi) (hdig : ∀ c ∈ l, isDig c) :
    ∃ l' dp', (l'.length ≤ 800 ∧ lo ≤ dp' ∧ dp' ≤ hi ∧ ∀ c ∈ l', isDig c) ∧ ∀ b w, Dec b l dp tr w →
      Calls Tryz.prog 99 #[.pointer (some ⟨b, 0, none⟩), .int .i64 k] w fun e w' => e = .returned (.tuple #[]) ∧ Dec b l' dp' tr w' ∧ Kp b w w' := by
  by_cases hneg : k < 0
  · refine ⟨l, dp, ⟨hl, by omega, by omega, hdig⟩, fun b w h => ?_⟩
    have hb : decide (k < 0) = true := by simpa using hneg
    obtain ⟨d, hD, hd⟩ := id h
    have c0 := hD.nd
    have H := Lib.hid h
    clear hD hd h
    go_enter Tryz.func99, Tryz.ntmps99
    go_wp2_with (fail)
    refine bodyPost_ret (results_none rfl _ _ _) rfl ⟨rfl, H.out, Kp.refl _ _⟩
  · obtain ⟨n, rfl⟩ : ∃ n : Nat, k = n := ⟨k.toNat, by omega⟩
    have hb : decide ((n : Int) < 0) = false := by simp
    by_cases hge : l.length ≤ n
    · have hb2 : decide ((l.length : Int) ≤ (n : Int)) = true := by simp; omega
      refine ⟨l, dp, ⟨hl, by omega, by omega, hdig⟩, fun b w h => ?_⟩
      obtain ⟨d, hD, hd⟩ := id h
      have c0 := hD.nd
      have H := Lib.hid h
      clear hD hd h
      go_enter Tryz.func99, Tryz.ntmps99
      go_wp2_with (fail)
      refine bodyPost_ret (results_none rfl _ _ _) rfl ⟨rfl, H.out, Kp.refl _ _⟩
    · have hb2 : decide ((l.length : Int) ≤ (n : Int)) = false := by simp; omega
      obtain ⟨r, hr⟩ := shouldRoundUp_ex l tr n (by omega) hl
      have HR := Lib.hid hr
      clear hr
      cases r with
      | true =>
        obtain ⟨l', dp', ⟨a1, a2, a3, a4⟩, hu⟩ := roundUp_ex l dp tr n (by omega) hl (by omega) (by omega) hdig
        have HU := Lib.hid hu
        clear hu
        refine ⟨l', dp', ⟨a1, by omega, by omega, a4⟩, fun b w h => ?_⟩
        obtain ⟨d, hD, hd⟩ := id h
        have c0 := hD.nd
        have H := Lib.hid h
        clear hD hd h
        go_enter Tryz.func99, Tryz.ntmps99
        go_wp2_with (first | (go_at_call 119; refine (HR.out b dp _ H.out).mono ?_; rintro e w' ⟨rfl, rfl⟩) | (go_at_call 120; refine (HU.out b _ H.out).mono ?_; rintro e w' ⟨rfl, h3, h4⟩; have H3 := Lib.hid h3; have H4 := Lib.hid h4; clear h3 h4))
        go_end0
        exact ⟨rfl, H3.out, H4.out⟩
      | false =>
        refine ⟨trimL (l.take n), trimP (l.take n) dp, ⟨?_, ?_, ?_, fun c hc => hdig c (List.mem_of_mem_take (List.mem_of_mem_take hc))⟩, fun b w h => ?_⟩
        · have := trimN_le (l.take n)
          rw [trimL_length]
          rw [List.length_take] at this
          omega
        · unfold trimP; split <;> omega
        · unfold trimP; split <;> omega
        · obtain ⟨d, hD, hd⟩ := id h
          have c0 := hD.nd
          have H := Lib.hid h
          clear hD hd h
          go_enter Tryz.func99, Tryz.ntmps99
          go_wp2_with (first | (go_at_call 119; refine (HR.out b dp _ H.out).mono ?_; rintro e w' ⟨rfl, rfl⟩) | (go_at_call 121; refine (roundDown_dec b l dp tr n (by omega) hl _ H.out).mono ?_; rintro e w' ⟨rfl, h3, h4⟩; have H3 := Lib.hid h3; have H4 := Lib.hid h4; clear h3 h4))
          go_end0
          exact ⟨rfl, H3.out, H4.out⟩

end Go.Proofs.YtokmamakmaojpaaGreatDoor

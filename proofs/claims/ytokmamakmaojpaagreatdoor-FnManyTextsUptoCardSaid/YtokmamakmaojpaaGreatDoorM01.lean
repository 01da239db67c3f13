/-
  A0. Shared words of the proof of FnManyTexts: what a quiet call leaves, what a call that makes memory leaves, and small laws of integer kinds.
  A1. Contracts of the small functions of internal/strconv that print the shortest or a fixed number of digits: each answers numbers that hang on its arguments alone, within bounds.
  A2. internal/strconv.prescale, shortFloat and fixedWidthFloat.
-/
import Derived.Test.YtokmamakmaojpaaGreatDoorProg
import Derived.WalkKit
import Derived.WalkSpells
import Derived.WalkLawsBesides
import Derived.Deep.QuietTactic
import Derived.BigQuiet
import Derived.IntWalk
import Derived.Lib.Hide
import Derived.Deep.LoopGhost
import Derived.Laws.Bits64
import Derived.Laws.BitsAllLaws
import GoSem.PinnedTables
import Derived.Lib.LaidTab
import Derived.Lib.ItoaNum
set_option linter.unusedVariables false
set_option linter.unusedSimpArgs false
/- A0. -/
namespace Go.Proofs.YtokmamakmaojpaaGreatDoor
open Go.RowKit

/-- A quiet call: the value, and the world but for draws. -/
def Still (v : Value) (w : World) (e : Ending) (w' : World) : Prop := e = .returned v ∧ ∃ m, w' = w.drewN m
theorem Still.zero {v : Value} {w : World} : Still v w (.returned v) w := ⟨rfl, 0, rfl⟩
theorem Still.mk {v : Value} {w : World} {m : Nat} : Still v w (.returned v) (w.drewN m) := ⟨rfl, m, rfl⟩

/-- A call that only reckons: the value, and the very world. -/
def Same (v : Value) (w : World) (e : Ending) (w' : World) : Prop := e = .returned v ∧ w = w'
theorem Same.mk {v : Value} {w : World} : Same v w (.returned v) w := ⟨rfl, rfl⟩
theorem Still.of_same {v : Value} {w : World} {e : Ending} {w' : World} (h : Same v w e w') : Still v w e w' := by
  obtain ⟨h1, rfl⟩ := h
  exact ⟨h1, 0, rfl⟩
theorem quiet_same {P : Program} {f : FuncId} {args : Array Value} {w : World} {n : Nat} {v : Value} (h : Calls P f args (w.drewN n) (Same v (w.drewN n))) :
    Calls P f args (w.drewN n) fun e w'' => e = .returned v ∧ ∃ m, w'' = w.drewN m :=
  h.mono fun _ _ ⟨he, hm⟩ => ⟨he, n, hm.symm⟩

/-- A call that makes memory of its own and leaves the rest. -/
def Ret (v : Value) (w : World) (e : Ending) (w' : World) : Prop := e = .returned v ∧ Below w.heap.size w w'
theorem Ret.of_still {v : Value} {w : World} {e : Ending} {w' : World} (h : Still v w e w') : Ret v w e w' := by
  obtain ⟨h1, m, rfl⟩ := h
  exact ⟨h1, below_drewN (Below.refl _ _) m⟩

theorem wrap64_lo (x : Int) : 0 ≤ IntKind.u64.wrap x := by rw [IntKind.wrap_u64]; omega
theorem wrap64_hi (x : Int) : IntKind.u64.wrap x < 18446744073709551616 := by rw [IntKind.wrap_u64]; omega
theorem bits_u64_lo (o : BinOp) (x y : Int) : 0 ≤ bits o .u64 x y := by unfold bits; cases o <;> exact wrap64_lo _
theorem bits_u64_hi (o : BinOp) (x y : Int) : bits o .u64 x y < 18446744073709551616 := by unfold bits; cases o <;> exact wrap64_hi _

def b2i (b : Bool) : Int := if b = true then 1 else 0
theorem b2i_lo (b : Bool) : 0 ≤ b2i b := by cases b <;> decide
theorem b2i_hi (b : Bool) : b2i b ≤ 1 := by cases b <;> decide

/-- The rows of the listed tables. -/
def powHi (i : Nat) : Int := ((Go.Pinned.pow10Rows.getD i (0, 0)).1 : Int)
def powLo (i : Nat) : Int := ((Go.Pinned.pow10Rows.getD i (0, 0)).2 : Int)
def cheatD (k : Nat) : Int := ((Go.Pinned.cheatRows.getD k (0, [])).1 : Int)
def cheatS (k : Nat) : List UInt8 := (Go.Pinned.cheatRows.getD k (0, [])).2
/-- What the listed variables hold, cell by cell: blocks 0 to 3 are the variables' own. -/
structure Tabs (w : World) : Prop where
  opt : w.cell? ⟨0, 0, none⟩ = some (.bool true)
  ten : Lib.TabIs Tryz.prog w "internal/strconv.uint64pow10" .u64 Lib.pow10Tab
  phi : ∀ i, i < 696 → w.cell? ⟨2, i * 2, none⟩ = some (.int .u64 (powHi i))
  plo : ∀ i, i < 696 → w.cell? ⟨2, i * 2 + 1, none⟩ = some (.int .u64 (powLo i))
  cheat : ∃ b o, b < w.heap.size ∧ w.cell? ⟨3, 0, none⟩ = some (.slice (some ⟨b, o, none⟩) 61 61) ∧
    (∀ k, k < 61 → w.cell? ⟨b, o + k * 2, none⟩ = some (.int .i64 (cheatD k))) ∧ ∀ k, k < 61 → w.cell? ⟨b, o + k * 2 + 1, none⟩ = some (.string ⟨(cheatS k).toArray⟩)
  size : 6 ≤ w.heap.size

theorem Tabs.below {w w' : World} (h : Tabs w) (hb : Below w.heap.size w w') : Tabs w' := by
  have hs := h.size
  have hz := hb.size
  obtain ⟨b, o, c0, c1, c2, c3⟩ := h.cheat
  exact { opt := (hb.cell (p := ⟨0, 0, none⟩) (by show 0 < _; omega)).trans h.opt
          ten := var?_below hb (g := 1) (by kernel_rfl) (by omega) h.ten
          phi := fun i hi => (hb.cell (p := ⟨2, i * 2, none⟩) (by show 2 < _; omega)).trans (h.phi i hi)
          plo := fun i hi => (hb.cell (p := ⟨2, i * 2 + 1, none⟩) (by show 2 < _; omega)).trans (h.plo i hi)
          cheat := ⟨b, o, by omega, (hb.cell (p := ⟨3, 0, none⟩) (by show 3 < _; omega)).trans c1, fun k hk => (hb.cell (p := ⟨b, o + k * 2, none⟩) c0).trans (c2 k hk), fun k hk => (hb.cell (p := ⟨b, o + k * 2 + 1, none⟩) c0).trans (c3 k hk)⟩
          size := by omega }

end Go.Proofs.YtokmamakmaojpaaGreatDoor

/- A1. -/
namespace Go.Proofs.YtokmamakmaojpaaGreatDoor
open Go.RowKit

theorem log10_any (x : Int) (w : World) (h0 : -2000 ≤ x) (h1 : x ≤ 2000) :
    Calls Tryz.prog 95 #[.int .i64 x] w (Same (.int .i64 (x * 78913 / 262144)) w) := by
  go_enter Tryz.func95, Tryz.ntmps95
  go_wp2
  go_ret
  exact Same.mk
theorem log2_any (x : Int) (w : World) (h0 : -2000 ≤ x) (h1 : x ≤ 2000) :
    Calls Tryz.prog 106 #[.int .i64 x] w (Same (.int .i64 (x * 108853 / 32768)) w) := by
  go_enter Tryz.func106, Tryz.ntmps106
  go_wp2
  go_ret
  exact Same.mk
theorem skewed_any (x : Int) (w : World) (h0 : -2000 ≤ x) (h1 : x ≤ 2000) :
    Calls Tryz.prog 104 #[.int .i64 x] w (Same (.int .i64 ((x * 631305 - 261663) / 2097152)) w) := by
  go_enter Tryz.func104, Tryz.ntmps104
  go_wp2
  go_ret
  exact Same.mk
theorem bool2_int (b : Bool) (w : World) :
    Calls Tryz.prog 113 #[.bool b] w (Same (.int .i64 (b2i b)) w) := by
  cases b
  all_goals
    go_enter Tryz.func113, Tryz.ntmps113
    go_wp2
    go_ret
    exact Same.mk
theorem bool2_u64 (b : Bool) (w : World) :
    Calls Tryz.prog 125 #[.bool b] w (Same (.int .u64 (b2i b)) w) := by
  cases b
  all_goals
    go_enter Tryz.func125, Tryz.ntmps125
    go_wp2
    go_ret
    exact Same.mk
theorem bool2_unr (b : Bool) (w : World) :
    Calls Tryz.prog 126 #[.bool b] w (Same (.int .u64 (b2i b)) w) := by
  cases b
  all_goals
    go_enter Tryz.func126, Tryz.ntmps126
    go_wp2
    go_ret
    exact Same.mk
def nudgeF (u d : Int) : Int := IntKind.u64.wrap (u + IntKind.u64.wrap d)
theorem nudge_any (u d : Int) (w : World) :
    Calls Tryz.prog 108 #[.int .u64 u, .int .i64 d] w (Same (.int .u64 (nudgeF u d)) w) := by
  go_enter Tryz.func108, Tryz.ntmps108
  go_wp2
  go_ret
  exact Same.mk
def ceilF (u : Int) : Int := IntKind.u64.wrap (u + 3) / 4
theorem ceil_any (u : Int) (w : World) :
    Calls Tryz.prog 109 #[.int .u64 u] w (Same (.int .u64 (ceilF u)) w) := by
  go_enter Tryz.func109, Tryz.ntmps109
  go_wp2
  go_ret
  exact Same.mk
def floorF (u : Int) : Int := IntKind.u64.wrap u / 4
theorem floor_any (u : Int) (w : World) :
    Calls Tryz.prog 110 #[.int .u64 u] w (Same (.int .u64 (floorF u)) w) := by
  go_enter Tryz.func110, Tryz.ntmps110
  go_wp2
  go_ret
  exact Same.mk
def roundF (u : Int) : Int := IntKind.u64.wrap (IntKind.u64.wrap (u + 1) + bits BinOp.and IntKind.u64 (u / 4) 1) / 4
theorem round_any (u : Int) (w : World) :
    Calls Tryz.prog 111 #[.int .u64 u] w (Same (.int .u64 (roundF u)) w) := by
  go_enter Tryz.func111, Tryz.ntmps111
  go_wp2
  go_ret
  exact Same.mk
def unminF (u : Int) : Int := IntKind.u64.wrap (IntKind.u64.wrap (u * 4) - 2)
theorem unmin_any (u : Int) (w : World) :
    Calls Tryz.prog 114 #[.int .u64 u] w (Same (.int .u64 (unminF u)) w) := by
  go_enter Tryz.func114, Tryz.ntmps114
  go_wp2
  go_ret
  exact Same.mk
theorem quarter_lo {x : Int} (h : 0 ≤ x) : 0 ≤ x / 4 := by omega
theorem ceilF_lo (u : Int) : 0 ≤ ceilF u := quarter_lo (wrap64_lo _)
theorem ceilF_hi (u : Int) : ceilF u < 4611686018427387904 := by have := wrap64_hi (u + 3); unfold ceilF; omega
theorem floorF_lo (u : Int) : 0 ≤ floorF u := quarter_lo (wrap64_lo _)
theorem floorF_hi (u : Int) : floorF u < 4611686018427387904 := by have := wrap64_hi u; unfold floorF; omega
theorem roundF_lo (u : Int) : 0 ≤ roundF u := quarter_lo (wrap64_lo _)
theorem roundF_hi (u : Int) : roundF u < 4611686018427387904 := by
  have := wrap64_hi (IntKind.u64.wrap (u + 1) + bits BinOp.and IntKind.u64 (u / 4) 1)
  unfold roundF; omega

/-- the same with the answers' bounds beside them -/
theorem ceil_calls (u : Int) (w : World) :
    Calls Tryz.prog 109 #[.int .u64 u] w fun e w' => e = .returned (.int .u64 (ceilF u)) ∧ (0 ≤ ceilF u ∧ ceilF u < 4611686018427387904) ∧ w = w' :=
  (ceil_any u w).mono fun _ _ ⟨h1, h2⟩ => ⟨h1, ⟨ceilF_lo u, ceilF_hi u⟩, h2⟩
theorem floor_calls (u : Int) (w : World) :
    Calls Tryz.prog 110 #[.int .u64 u] w fun e w' => e = .returned (.int .u64 (floorF u)) ∧ (0 ≤ floorF u ∧ floorF u < 4611686018427387904) ∧ w = w' :=
  (floor_any u w).mono fun _ _ ⟨h1, h2⟩ => ⟨h1, ⟨floorF_lo u, floorF_hi u⟩, h2⟩
theorem round_calls (u : Int) (w : World) :
    Calls Tryz.prog 111 #[.int .u64 u] w fun e w' => e = .returned (.int .u64 (roundF u)) ∧ (0 ≤ roundF u ∧ roundF u < 4611686018427387904) ∧ w = w' :=
  (round_any u w).mono fun _ _ ⟨h1, h2⟩ => ⟨h1, ⟨roundF_lo u, roundF_hi u⟩, h2⟩
def divF (u : Int) : Int :=
  bits BinOp.or IntKind.u64 (bits BinOp.or IntKind.u64 (IntKind.u64.wrap (u.tdiv 10)) (bits BinOp.and IntKind.u64 u 1)) (b2i (u % 10 != 0))
theorem divF_lo (u : Int) : 0 ≤ divF u := bits_u64_lo _ _ _
theorem div_any (u : Int) (w : World) (h0 : 0 ≤ u) :
    Calls Tryz.prog 115 #[.int .u64 u, .int .u64 10] w (Still (.int .u64 (divF u)) w) := by
  go_enter Tryz.func115, Tryz.ntmps115
  go_wp2
  go_quiet ((go_at_call 126; exact quiet_same (bool2_unr _ _)))
  go_wp2
  go_ret
  exact Still.mk

theorem mul64_ex (a b : Int) :
    ∃ h l, (0 ≤ h ∧ 0 ≤ l) ∧ ∀ w, Calls Tryz.prog 124 #[.int .u64 a, .int .u64 b] w (Same (.tuple #[.int .u64 h, .int .u64 l]) w) := by
  apply Exists.intro
  apply Exists.intro
  refine ⟨?c, fun w => ?walk⟩
  case walk =>
    go_enter Tryz.func124, Tryz.ntmps124
    go_wp2
    go_ret2
    exact Same.mk
  case c => exact ⟨wrap64_lo _, wrap64_lo _⟩

theorem and63_lo (s : Int) : 0 ≤ bits BinOp.and IntKind.i64 s 63 ∧ bits BinOp.and IntKind.i64 s 63 ≤ 63 := by
  have h : ((BitVec.ofInt 64 s &&& BitVec.ofInt 64 63).toNat) ≤ 63 := by
    rw [BitVec.toNat_and]
    exact Nat.and_le_right
  have e : bits BinOp.and IntKind.i64 s 63 = ((BitVec.ofInt 64 s &&& BitVec.ofInt 64 63).toNat : Int) := by
    show IntKind.i64.wrap ((BitVec.ofInt 64 s &&& BitVec.ofInt 64 63).toNat : Int) = _
    rw [IntKind.wrap_i64]
    omega
  rw [e]
  omega

theorem uscale_ex (x hi lo s : Int) :
    ∃ r, 0 ≤ r ∧ ∀ g w, w.cell? ⟨g, 0, none⟩ = some (.int .u64 hi) → w.cell? ⟨g, 1, none⟩ = some (.int .u64 lo) → w.cell? ⟨g, 2, none⟩ = some (.int .i64 s) →
      Calls Tryz.prog 107 #[.int .u64 x, .pointer (some ⟨g, 0, none⟩)] w (Still (.int .u64 r) w) := by
  obtain ⟨H, M, ⟨hH, hM⟩, c1⟩ := mul64_ex x hi
  obtain ⟨H2, M2, ⟨hH2, hM2⟩, c2⟩ := mul64_ex x lo
  have C1 := Lib.hid c1
  have C2 := Lib.hid c2
  clear c1 c2
  have hs := and63_lo s
  obtain ⟨t, ht⟩ : ∃ t, bits BinOp.and IntKind.i64 s 63 = t := ⟨_, rfl⟩
  rw [ht] at hs
  obtain ⟨ht0, ht1⟩ := hs
  by_cases c : IntKind.u64.wrap (H / 2 ^ t.toNat * 2 ^ t.toNat) = H
  · apply Exists.intro
    refine ⟨?c, fun g w e0 e1 e2 => ?walk⟩
    case walk =>
      go_enter Tryz.func107, Tryz.ntmps107
      go_wp2_with fail
      refine (C1.out _).mono ?_; rintro e w' ⟨rfl, rfl⟩
      go_wp2_with fail
      refine (C2.out _).mono ?_; rintro e w' ⟨rfl, rfl⟩
      go_wp2_with (go_at_call 125; refine (bool2_u64 _ _).mono ?_; rintro e w' ⟨rfl, rfl⟩)
      go_quiet ((go_at_call 125; exact quiet_same (bool2_u64 _ _)))
      go_wp2
      go_ret
      exact Still.mk
    case c => exact bits_u64_lo _ _ _
  · apply Exists.intro
    refine ⟨?c, fun g w e0 e1 e2 => ?walk⟩
    case walk =>
      go_enter Tryz.func107, Tryz.ntmps107
      go_wp2_with fail
      refine (C1.out _).mono ?_; rintro e w' ⟨rfl, rfl⟩
      go_wp2_with fail
      go_ret
      exact Still.zero
    case c => exact bits_u64_lo _ _ _
noncomputable def uscaleF (x hi lo s : Int) : Int := (uscale_ex x hi lo s).choose
theorem uscaleF_lo (x hi lo s : Int) : 0 ≤ uscaleF x hi lo s := (uscale_ex x hi lo s).choose_spec.1
theorem uscale_any (x hi lo s : Int) (g : Nat) (w : World) (h0 : w.cell? ⟨g, 0, none⟩ = some (.int .u64 hi)) (h1 : w.cell? ⟨g, 1, none⟩ = some (.int .u64 lo)) (h2 : w.cell? ⟨g, 2, none⟩ = some (.int .i64 s)) :
    Calls Tryz.prog 107 #[.int .u64 x, .pointer (some ⟨g, 0, none⟩)] w (Still (.int .u64 (uscaleF x hi lo s)) w) := (uscale_ex x hi lo s).choose_spec.2 g w h0 h1 h2

end Go.Proofs.YtokmamakmaojpaaGreatDoor

/- A2. -/
namespace Go.Proofs.YtokmamakmaojpaaGreatDoor
open Go.RowKit

theorem prescale_new (W : World) (e lp : Int) (n : Nat) (hn : n < 696) (hT : Tabs W) (he0 : -3000 ≤ e) (he1 : e ≤ 3000) (h0 : -3000 ≤ lp) (h1 : lp ≤ 3000) :
    Calls Tryz.prog 105 #[.pointer (some ⟨W.heap.size, 0, none⟩), .int .i64 e, .int .i64 ((n : Int) - 348), .int .i64 lp] (W.alloc (.cells #[.int .u64 0, .int .u64 0, .int .i64 0] 188))
      fun e' w' => e' = .returned (.tuple #[]) ∧ w' = W.alloc (.cells #[.int .u64 (powHi n), .int .u64 (powLo n), .int .i64 (-(e + lp + 3))] 188) := by
  have hz := hT.size
  have c0 : ∀ o, (W.alloc o).cell? ⟨2, n * 2, none⟩ = some (.int .u64 (powHi n)) := fun o => (hT.below ((Below.refl _ _).alloc (Nat.le_refl _) o)).phi n hn
  have c1 : ∀ o, (W.alloc o).cell? ⟨2, n * 2 + 1, none⟩ = some (.int .u64 (powLo n)) := fun o => (hT.below ((Below.refl _ _).alloc (Nat.le_refl _) o)).plo n hn
  clear hT
  go_enter Tryz.func105, Tryz.ntmps105
  go_wp2
  go_end0
  exact ⟨rfl, rfl⟩

def shortPick (dmin dmax dr p : Int) : Value :=
  if dmin ≤ dmax / 10 * 10 then .tuple #[.int .u64 (dmax / 10), .int .i64 (-(p - 1))]
  else if dmin < dmax then .tuple #[.int .u64 dr, .int .i64 (-p)] else .tuple #[.int .u64 dmin, .int .i64 (-p)]
noncomputable def shortG (m e mn mx odd : Int) (n : Nat) : Value :=
  shortPick (ceilF (nudgeF (uscaleF mn (powHi n) (powLo n) (-(e + (↑n - 348) * 108853 / 32768 + 3))) odd))
    (floorF (nudgeF (uscaleF mx (powHi n) (powLo n) (-(e + (↑n - 348) * 108853 / 32768 + 3))) (-odd)))
    (roundF (uscaleF m (powHi n) (powLo n) (-(e + (↑n - 348) * 108853 / 32768 + 3)))) (↑n - 348)
theorem odd_lo (x : Int) : 0 ≤ bits BinOp.and IntKind.i64 x 1 ∧ bits BinOp.and IntKind.i64 x 1 ≤ 1 := by
  have h : ((BitVec.ofInt 64 x &&& BitVec.ofInt 64 1).toNat) ≤ 1 := by
    rw [BitVec.toNat_and]
    exact Nat.and_le_right
  have e : bits BinOp.and IntKind.i64 x 1 = ((BitVec.ofInt 64 x &&& BitVec.ofInt 64 1).toNat : Int) := by
    show IntKind.i64.wrap ((BitVec.ofInt 64 x &&& BitVec.ofInt 64 1).toNat : Int) = _
    rw [IntKind.wrap_i64]
    omega
  rw [e]
  omega
theorem pick_1 {dmin dmax dr p : Int} {w : World} {w' : World} (h : dmin ≤ dmax / 10 * 10) (hb : Below w.heap.size w w') :
    Ret (shortPick dmin dmax dr p) w (.returned (.tuple #[.int .u64 (dmax / 10), .int .i64 (-(p - 1))])) w' := ⟨by rw [shortPick, if_pos h], hb⟩
theorem pick_2 {dmin dmax dr p : Int} {w : World} {w' : World} (h : dmax / 10 * 10 < dmin) (h2 : dmin < dmax) (hb : Below w.heap.size w w') :
    Ret (shortPick dmin dmax dr p) w (.returned (.tuple #[.int .u64 dr, .int .i64 (-p)])) w' := ⟨by rw [shortPick, if_neg (by omega), if_pos h2], hb⟩
theorem pick_3 {dmin dmax dr p : Int} {w : World} {w' : World} (h : dmax / 10 * 10 < dmin) (h2 : dmax ≤ dmin) (hb : Below w.heap.size w w') :
    Ret (shortPick dmin dmax dr p) w (.returned (.tuple #[.int .u64 dmin, .int .i64 (-p)])) w' := ⟨by rw [shortPick, if_neg (by omega), if_neg (by omega)], hb⟩

set_option maxRecDepth 100000 in
theorem short_2 (m e : Int) (he0 : -1085 ≤ e) (he1 : e ≤ 960) (hc : (m == 9223372036854775808) = false) (n : Nat) (hn : -((e + 11) * 78913 / 262144) = (n : Int) - 348) (w : World) (hT : Tabs w) :
    Calls Tryz.prog 100 #[.int .u64 m, .int .i64 e] w (Ret (shortG m e (IntKind.u64.wrap (m - 1024)) (IntKind.u64.wrap (m + 1024)) (bits BinOp.and IntKind.i64 (wrap64 (m / 2048)) 1) n) w) := by
  have hn1 : n < 696 := by omega
  have hn2 : 50 ≤ n := by omega
  obtain ⟨hodd0, hodd1⟩ := odd_lo (wrap64 (m / 2048))
  go_enter Tryz.func100, Tryz.ntmps100
  go_wp2_with fail
  refine (log10_any _ _ (by omega) (by omega)).mono ?_; rintro e w' ⟨rfl, rfl⟩
  go_wp2_with fail
  refine (log2_any _ _ (by omega) (by omega)).mono ?_; rintro e w' ⟨rfl, rfl⟩
  go_wp2_with fail
  refine (prescale_new w e _ n hn1 hT (by omega) (by omega) (by omega) (by omega)).mono ?_; rintro e' w' ⟨rfl, rfl⟩
  obtain ⟨W, hW⟩ : ∃ W, W = w.alloc (.cells #[.int .u64 (powHi n), .int .u64 (powLo n), .int .i64 (-(e + (↑n - 348) * 108853 / 32768 + 3))] 188) := ⟨_, rfl⟩
  have c0 : W.cell? ⟨w.heap.size, 0, none⟩ = some (.int .u64 (powHi n)) := by rw [hW]; simp
  have c1 : W.cell? ⟨w.heap.size, 1, none⟩ = some (.int .u64 (powLo n)) := by rw [hW]; simp
  have c2 : W.cell? ⟨w.heap.size, 2, none⟩ = some (.int .i64 (-(e + (↑n - 348) * 108853 / 32768 + 3))) := by rw [hW]; simp
  have hB : Below w.heap.size w W := by rw [hW]; exact (Below.refl _ _).alloc (Nat.le_refl _) _
  rw [← hW]
  clear hW
  go_wp2_with (first | (go_at_call 107; refine (uscale_any _ _ _ _ _ _ (by exact c0) (by exact c1) (by exact c2)).mono ?_; rintro e' w' ⟨rfl, m, rfl⟩) | (go_at_call 108; refine (nudge_any _ _ _).mono ?_; rintro e' w' ⟨rfl, rfl⟩) | (go_at_call 109; refine (ceil_calls _ _).mono ?_; rintro e' w' ⟨rfl, ⟨hd0, hd1⟩, rfl⟩) | (go_at_call 110; refine (floor_calls _ _).mono ?_; rintro e' w' ⟨rfl, ⟨hx0, hx1⟩, rfl⟩) | (go_at_call 111; refine (round_any _ _).mono ?_; rintro e' w' ⟨rfl, rfl⟩))
  all_goals go_ret2
  all_goals unfold shortG
  · refine pick_1 ?_ (below_drewN hB _)
    with_reducible assumption
  · refine pick_2 ?_ ?_ (below_drewN hB _)
    with_reducible assumption
    with_reducible assumption
  · refine pick_3 ?_ ?_ (below_drewN hB _)
    with_reducible assumption
    with_reducible assumption
set_option maxRecDepth 100000 in
theorem short_2b (m e : Int) (he : e = -1085) (hc : (m == 9223372036854775808) = true) (n : Nat) (hn : -((e + 11) * 78913 / 262144) = (n : Int) - 348) (w : World) (hT : Tabs w) :
    Calls Tryz.prog 100 #[.int .u64 m, .int .i64 e] w (Ret (shortG m e (IntKind.u64.wrap (m - 1024)) (IntKind.u64.wrap (m + 1024)) (bits BinOp.and IntKind.i64 (wrap64 (m / 2048)) 1) n) w) := by
  have he0 : -1085 ≤ e := by omega
  have he1 : e ≤ -1085 := by omega
  clear he
  have hn1 : n < 696 := by omega
  have hn2 : 50 ≤ n := by omega
  obtain ⟨hodd0, hodd1⟩ := odd_lo (wrap64 (m / 2048))
  go_enter Tryz.func100, Tryz.ntmps100
  go_wp2_with fail
  refine (log10_any _ _ (by omega) (by omega)).mono ?_; rintro e w' ⟨rfl, rfl⟩
  go_wp2_with fail
  refine (log2_any _ _ (by omega) (by omega)).mono ?_; rintro e w' ⟨rfl, rfl⟩
  go_wp2_with fail
  refine (prescale_new w e _ n hn1 hT (by omega) (by omega) (by omega) (by omega)).mono ?_; rintro e' w' ⟨rfl, rfl⟩
  obtain ⟨W, hW⟩ : ∃ W, W = w.alloc (.cells #[.int .u64 (powHi n), .int .u64 (powLo n), .int .i64 (-(e + (↑n - 348) * 108853 / 32768 + 3))] 188) := ⟨_, rfl⟩
  have c0 : W.cell? ⟨w.heap.size, 0, none⟩ = some (.int .u64 (powHi n)) := by rw [hW]; simp
  have c1 : W.cell? ⟨w.heap.size, 1, none⟩ = some (.int .u64 (powLo n)) := by rw [hW]; simp
  have c2 : W.cell? ⟨w.heap.size, 2, none⟩ = some (.int .i64 (-(e + (↑n - 348) * 108853 / 32768 + 3))) := by rw [hW]; simp
  have hB : Below w.heap.size w W := by rw [hW]; exact (Below.refl _ _).alloc (Nat.le_refl _) _
  rw [← hW]
  clear hW
  go_wp2_with (first | (go_at_call 107; refine (uscale_any _ _ _ _ _ _ (by exact c0) (by exact c1) (by exact c2)).mono ?_; rintro e' w' ⟨rfl, m, rfl⟩) | (go_at_call 108; refine (nudge_any _ _ _).mono ?_; rintro e' w' ⟨rfl, rfl⟩) | (go_at_call 109; refine (ceil_calls _ _).mono ?_; rintro e' w' ⟨rfl, ⟨hd0, hd1⟩, rfl⟩) | (go_at_call 110; refine (floor_calls _ _).mono ?_; rintro e' w' ⟨rfl, ⟨hx0, hx1⟩, rfl⟩) | (go_at_call 111; refine (round_any _ _).mono ?_; rintro e' w' ⟨rfl, rfl⟩))
  all_goals go_ret2
  all_goals unfold shortG
  · refine pick_1 ?_ (below_drewN hB _)
    with_reducible assumption
  · refine pick_2 ?_ ?_ (below_drewN hB _)
    with_reducible assumption
    with_reducible assumption
  · refine pick_3 ?_ ?_ (below_drewN hB _)
    with_reducible assumption
    with_reducible assumption
set_option maxRecDepth 100000 in
theorem short_1 (m e : Int) (he0 : -1085 < e) (he1 : e ≤ 960) (hc : (m == 9223372036854775808) = true) (n : Nat) (hn : -(((e + 11) * 631305 - 261663) / 2097152) = (n : Int) - 348) (w : World) (hT : Tabs w) :
    Calls Tryz.prog 100 #[.int .u64 m, .int .i64 e] w (Ret (shortG m e (IntKind.u64.wrap (m - 512)) (IntKind.u64.wrap (m + 1024)) (bits BinOp.and IntKind.i64 (wrap64 (m / 2048)) 1) n) w) := by
  obtain ⟨hodd0, hodd1⟩ := odd_lo (wrap64 (m / 2048))
  have hn1 : n < 696 := by omega
  have hn2 : 50 ≤ n := by omega
  go_enter Tryz.func100, Tryz.ntmps100
  go_wp2_with fail
  refine (skewed_any _ _ (by omega) (by omega)).mono ?_; rintro e w' ⟨rfl, rfl⟩
  go_wp2_with fail
  refine (log2_any _ _ (by omega) (by omega)).mono ?_; rintro e w' ⟨rfl, rfl⟩
  go_wp2_with fail
  refine (prescale_new w e _ n hn1 hT (by omega) (by omega) (by omega) (by omega)).mono ?_; rintro e' w' ⟨rfl, rfl⟩
  obtain ⟨W, hW⟩ : ∃ W, W = w.alloc (.cells #[.int .u64 (powHi n), .int .u64 (powLo n), .int .i64 (-(e + (↑n - 348) * 108853 / 32768 + 3))] 188) := ⟨_, rfl⟩
  have c0 : W.cell? ⟨w.heap.size, 0, none⟩ = some (.int .u64 (powHi n)) := by rw [hW]; simp
  have c1 : W.cell? ⟨w.heap.size, 1, none⟩ = some (.int .u64 (powLo n)) := by rw [hW]; simp
  have c2 : W.cell? ⟨w.heap.size, 2, none⟩ = some (.int .i64 (-(e + (↑n - 348) * 108853 / 32768 + 3))) := by rw [hW]; simp
  have hB : Below w.heap.size w W := by rw [hW]; exact (Below.refl _ _).alloc (Nat.le_refl _) _
  rw [← hW]
  clear hW
  go_wp2_with (first | (go_at_call 107; refine (uscale_any _ _ _ _ _ _ (by exact c0) (by exact c1) (by exact c2)).mono ?_; rintro e' w' ⟨rfl, m, rfl⟩) | (go_at_call 108; refine (nudge_any _ _ _).mono ?_; rintro e' w' ⟨rfl, rfl⟩) | (go_at_call 109; refine (ceil_calls _ _).mono ?_; rintro e' w' ⟨rfl, ⟨hd0, hd1⟩, rfl⟩) | (go_at_call 110; refine (floor_calls _ _).mono ?_; rintro e' w' ⟨rfl, ⟨hx0, hx1⟩, rfl⟩) | (go_at_call 111; refine (round_any _ _).mono ?_; rintro e' w' ⟨rfl, rfl⟩))
  all_goals go_ret2
  all_goals unfold shortG
  · refine pick_1 ?_ (below_drewN hB _)
    with_reducible assumption
  · refine pick_2 ?_ ?_ (below_drewN hB _)
    with_reducible assumption
    with_reducible assumption
  · refine pick_3 ?_ ?_ (below_drewN hB _)
    with_reducible assumption
    with_reducible assumption
set_option maxRecDepth 100000 in
theorem short_3 (m e : Int) (he0 : -1137 ≤ e) (he1 : e < -1085) (hc : (m == 9223372036854775808) = false) (n : Nat) (hn : -((e + (11 + (-1085 - e))) * 78913 / 262144) = (n : Int) - 348) (w : World) (hT : Tabs w) :
    Calls Tryz.prog 100 #[.int .u64 m, .int .i64 e] w (Ret (shortG m e (IntKind.u64.wrap (m - IntKind.u64.wrap (2 ^ ((11 + (-1085 - e)).toNat - 1)))) (IntKind.u64.wrap (m + IntKind.u64.wrap (2 ^ ((11 + (-1085 - e)).toNat - 1)))) (bits BinOp.and IntKind.i64 (wrap64 (m / 2 ^ (11 + (-1085 - e)).toNat)) 1) n) w) := by
  have hn1 : n < 696 := by omega
  have hn2 : 50 ≤ n := by omega
  obtain ⟨hodd0, hodd1⟩ := odd_lo (wrap64 (m / 2 ^ (11 + (-1085 - e)).toNat))
  go_enter Tryz.func100, Tryz.ntmps100
  go_wp2_with fail
  refine (log10_any _ _ (by omega) (by omega)).mono ?_; rintro e w' ⟨rfl, rfl⟩
  go_wp2_with fail
  refine (log2_any _ _ (by omega) (by omega)).mono ?_; rintro e w' ⟨rfl, rfl⟩
  go_wp2_with fail
  refine (prescale_new w e _ n hn1 hT (by omega) (by omega) (by omega) (by omega)).mono ?_; rintro e' w' ⟨rfl, rfl⟩
  obtain ⟨W, hW⟩ : ∃ W, W = w.alloc (.cells #[.int .u64 (powHi n), .int .u64 (powLo n), .int .i64 (-(e + (↑n - 348) * 108853 / 32768 + 3))] 188) := ⟨_, rfl⟩
  have c0 : W.cell? ⟨w.heap.size, 0, none⟩ = some (.int .u64 (powHi n)) := by rw [hW]; simp
  have c1 : W.cell? ⟨w.heap.size, 1, none⟩ = some (.int .u64 (powLo n)) := by rw [hW]; simp
  have c2 : W.cell? ⟨w.heap.size, 2, none⟩ = some (.int .i64 (-(e + (↑n - 348) * 108853 / 32768 + 3))) := by rw [hW]; simp
  have hB : Below w.heap.size w W := by rw [hW]; exact (Below.refl _ _).alloc (Nat.le_refl _) _
  rw [← hW]
  clear hW
  go_wp2_with (first | (go_at_call 107; refine (uscale_any _ _ _ _ _ _ (by exact c0) (by exact c1) (by exact c2)).mono ?_; rintro e' w' ⟨rfl, m, rfl⟩) | (go_at_call 108; refine (nudge_any _ _ _).mono ?_; rintro e' w' ⟨rfl, rfl⟩) | (go_at_call 109; refine (ceil_calls _ _).mono ?_; rintro e' w' ⟨rfl, ⟨hd0, hd1⟩, rfl⟩) | (go_at_call 110; refine (floor_calls _ _).mono ?_; rintro e' w' ⟨rfl, ⟨hx0, hx1⟩, rfl⟩) | (go_at_call 111; refine (round_any _ _).mono ?_; rintro e' w' ⟨rfl, rfl⟩))
  all_goals go_ret2
  all_goals unfold shortG
  · refine pick_1 ?_ (below_drewN hB _)
    with_reducible assumption
  · refine pick_2 ?_ ?_ (below_drewN hB _)
    with_reducible assumption
    with_reducible assumption
  · refine pick_3 ?_ ?_ (below_drewN hB _)
    with_reducible assumption
    with_reducible assumption
set_option maxRecDepth 100000 in
theorem short_3b (m e : Int) (he0 : -1137 ≤ e) (he1 : e < -1085) (hc : (m == 9223372036854775808) = true) (n : Nat) (hn : -((e + (11 + (-1085 - e))) * 78913 / 262144) = (n : Int) - 348) (w : World) (hT : Tabs w) :
    Calls Tryz.prog 100 #[.int .u64 m, .int .i64 e] w (Ret (shortG m e (IntKind.u64.wrap (m - IntKind.u64.wrap (2 ^ ((11 + (-1085 - e)).toNat - 1)))) (IntKind.u64.wrap (m + IntKind.u64.wrap (2 ^ ((11 + (-1085 - e)).toNat - 1)))) (bits BinOp.and IntKind.i64 (wrap64 (m / 2 ^ (11 + (-1085 - e)).toNat)) 1) n) w) := by
  have hn1 : n < 696 := by omega
  have hn2 : 50 ≤ n := by omega
  obtain ⟨hodd0, hodd1⟩ := odd_lo (wrap64 (m / 2 ^ (11 + (-1085 - e)).toNat))
  go_enter Tryz.func100, Tryz.ntmps100
  go_wp2_with fail
  refine (log10_any _ _ (by omega) (by omega)).mono ?_; rintro e w' ⟨rfl, rfl⟩
  go_wp2_with fail
  refine (log2_any _ _ (by omega) (by omega)).mono ?_; rintro e w' ⟨rfl, rfl⟩
  go_wp2_with fail
  refine (prescale_new w e _ n hn1 hT (by omega) (by omega) (by omega) (by omega)).mono ?_; rintro e' w' ⟨rfl, rfl⟩
  obtain ⟨W, hW⟩ : ∃ W, W = w.alloc (.cells #[.int .u64 (powHi n), .int .u64 (powLo n), .int .i64 (-(e + (↑n - 348) * 108853 / 32768 + 3))] 188) := ⟨_, rfl⟩
  have c0 : W.cell? ⟨w.heap.size, 0, none⟩ = some (.int .u64 (powHi n)) := by rw [hW]; simp
  have c1 : W.cell? ⟨w.heap.size, 1, none⟩ = some (.int .u64 (powLo n)) := by rw [hW]; simp
  have c2 : W.cell? ⟨w.heap.size, 2, none⟩ = some (.int .i64 (-(e + (↑n - 348) * 108853 / 32768 + 3))) := by rw [hW]; simp
  have hB : Below w.heap.size w W := by rw [hW]; exact (Below.refl _ _).alloc (Nat.le_refl _) _
  rw [← hW]
  clear hW
  go_wp2_with (first | (go_at_call 107; refine (uscale_any _ _ _ _ _ _ (by exact c0) (by exact c1) (by exact c2)).mono ?_; rintro e' w' ⟨rfl, m, rfl⟩) | (go_at_call 108; refine (nudge_any _ _ _).mono ?_; rintro e' w' ⟨rfl, rfl⟩) | (go_at_call 109; refine (ceil_calls _ _).mono ?_; rintro e' w' ⟨rfl, ⟨hd0, hd1⟩, rfl⟩) | (go_at_call 110; refine (floor_calls _ _).mono ?_; rintro e' w' ⟨rfl, ⟨hx0, hx1⟩, rfl⟩) | (go_at_call 111; refine (round_any _ _).mono ?_; rintro e' w' ⟨rfl, rfl⟩))
  all_goals go_ret2
  all_goals unfold shortG
  · refine pick_1 ?_ (below_drewN hB _)
    with_reducible assumption
  · refine pick_2 ?_ ?_ (below_drewN hB _)
    with_reducible assumption
    with_reducible assumption
  · refine pick_3 ?_ ?_ (below_drewN hB _)
    with_reducible assumption
    with_reducible assumption

theorem pick_ex (dmin dmax dr p : Int) (h0 : 0 ≤ dmin ∧ dmin < 4611686018427387904) (h1 : 0 ≤ dmax ∧ dmax < 4611686018427387904) (h2 : 0 ≤ dr ∧ dr < 4611686018427387904) (hp : -348 ≤ p ∧ p ≤ 348) :
    ∃ d q, (0 ≤ d ∧ d < 4611686018427387904 ∧ -400 ≤ q ∧ q ≤ 400) ∧ shortPick dmin dmax dr p = .tuple #[.int .u64 d, .int .i64 q] := by
  unfold shortPick
  by_cases c1 : dmin ≤ dmax / 10 * 10
  · exact ⟨dmax / 10, -(p - 1), by omega, by rw [if_pos c1]⟩
  · by_cases c2 : dmin < dmax
    · exact ⟨dr, -p, by omega, by rw [if_neg c1, if_pos c2]⟩
    · exact ⟨dmin, -p, by omega, by rw [if_neg c1, if_neg c2]⟩

theorem shortG_ex (m e mn mx odd : Int) (n : Nat) (hn : n < 696) :
    ∃ d q, (0 ≤ d ∧ d < 4611686018427387904 ∧ -400 ≤ q ∧ q ≤ 400) ∧ shortG m e mn mx odd n = .tuple #[.int .u64 d, .int .i64 q] :=
  pick_ex _ _ _ _ ⟨ceilF_lo _, ceilF_hi _⟩ ⟨floorF_lo _, floorF_hi _⟩ ⟨roundF_lo _, roundF_hi _⟩ (by omega)

/-- internal/strconv.shortFloat at float64: two numbers that hang on the arguments alone, within bounds. -/
theorem shortFloat_ex (m e : Int) (he0 : -1137 ≤ e) (he1 : e ≤ 960) :
    ∃ d q, (0 ≤ d ∧ d < 4611686018427387904 ∧ -400 ≤ q ∧ q ≤ 400) ∧ ∀ w, Tabs w →
      Calls Tryz.prog 100 #[.int .u64 m, .int .i64 e] w (Ret (.tuple #[.int .u64 d, .int .i64 q]) w) := by
  have key : ∃ mn mx odd, ∃ n : Nat, n < 696 ∧ ∀ w, Tabs w → Calls Tryz.prog 100 #[.int .u64 m, .int .i64 e] w (Ret (shortG m e mn mx odd n) w) := by
    by_cases c3 : e < -1085
    · obtain ⟨n, hn⟩ : ∃ n : Nat, -((e + (11 + (-1085 - e))) * 78913 / 262144) = (n : Int) - 348 := ⟨672, by omega⟩
      cases hc : (m == 9223372036854775808) with
      | false => exact ⟨_, _, _, n, by omega, fun w hT => short_3 m e he0 c3 hc n hn w hT⟩
      | true => exact ⟨_, _, _, n, by omega, fun w hT => short_3b m e he0 c3 hc n hn w hT⟩
    · cases hc : (m == 9223372036854775808) with
      | false =>
        obtain ⟨n, hn⟩ : ∃ n : Nat, -((e + 11) * 78913 / 262144) = (n : Int) - 348 := ⟨(-((e + 11) * 78913 / 262144) + 348).toNat, by omega⟩
        exact ⟨_, _, _, n, by omega, fun w hT => short_2 m e (by omega) he1 hc n hn w hT⟩
      | true =>
        by_cases c1 : -1085 < e
        · obtain ⟨n, hn⟩ : ∃ n : Nat, -(((e + 11) * 631305 - 261663) / 2097152) = (n : Int) - 348 := ⟨(-(((e + 11) * 631305 - 261663) / 2097152) + 348).toNat, by omega⟩
          exact ⟨_, _, _, n, by omega, fun w hT => short_1 m e c1 he1 hc n hn w hT⟩
        · obtain ⟨n, hn⟩ : ∃ n : Nat, -((e + 11) * 78913 / 262144) = (n : Int) - 348 := ⟨(-((e + 11) * 78913 / 262144) + 348).toNat, by omega⟩
          exact ⟨_, _, _, n, by omega, fun w hT => short_2b m e (by omega) hc n hn w hT⟩
  obtain ⟨mn, mx, odd, n, hn, h⟩ := key
  obtain ⟨d, q, hb, he⟩ := shortG_ex m e mn mx odd n hn
  exact ⟨d, q, hb, fun w hT => he ▸ h w hT⟩

end Go.Proofs.YtokmamakmaojpaaGreatDoor

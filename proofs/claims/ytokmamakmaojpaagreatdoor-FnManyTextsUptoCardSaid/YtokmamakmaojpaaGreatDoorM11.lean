/-
  Reading a row of bytes as a string; FormatFloat, where the text of the row is known.
-/
import Derived.Test.YtokmamakmaojpaaGreatDoorM06
import Derived.Laws.IdiomStrings
import Derived.Lib.BufferRead
set_option linter.unusedVariables false
set_option linter.unusedSimpArgs false
namespace Go.Proofs.YtokmamakmaojpaaGreatDoor
open Go.RowKit

theorem conv_row {B : Nat} {w0 w : World} {v : Value} {s : List UInt8} (h : BRow B w0 v s w) : (convert 60 9 v).run Tryz.prog w = .ok (.string ⟨s.toArray⟩) w := by
  rcases h.own.2 with ⟨h1, h2⟩ | ⟨g, cap, cur, h1, h2, h3, h4, h5, h6, h7⟩
  · have : s = [] := List.length_eq_zero_iff.1 h2
    subst this
    subst h1
    exact Lib.run_convert_nil_bytes w 60 9 5 0 (by kernel_rfl) (by kernel_rfl) (by kernel_rfl)
  · subst h1
    refine run_convert_bytes_back w 60 9 5 ⟨g, 0, none⟩ cap s (by kernel_rfl) (by kernel_rfl) (by kernel_rfl) fun j hj => ?_
    have e : w.cell? (Addr.add ⟨g, 0, none⟩ j) = cur[j]? := by
      rw [show Addr.add ⟨g, 0, none⟩ j = ⟨g, j, none⟩ by simp [Addr.add]; omega]
      exact Lib.cell_of_heap h3 j
    rw [e]
    have h8 : (Lib.byteCells s)[j]? = some (.int .u8 (s[j].toNat : Int)) := by
      simp [Lib.byteCells, hj]
    rw [← h7, List.getElem?_take, if_pos (by omega)] at h8
    simpa using h8

/-- What is told of ftoa64 at x and prec. -/
def Ftoa (x : Nat) (prec : Int) (s : List UInt8) : Prop := ∀ B v w, Tabs w → BRow B w v [] w → Calls Tryz.prog 85 #[v, .float .f64 x, .int .u8 102, .int .i64 prec] w
      fun e w' => ∃ v', e = .returned v' ∧ BRow B w v' s w'

theorem newRow (w : World) (cs : Array Value) (h : cs.size = 24) : BRow w.heap.size (w.alloc (.cells cs 5)) (.slice (some ⟨w.heap.size, 0, none⟩) 0 24) [] (w.alloc (.cells cs 5)) := by
  refine ⟨⟨rfl, Or.inr ⟨w.heap.size, 24, cs, rfl, Nat.le_refl _, by show (w.heap.push _)[w.heap.size]? = _; simp, by simp, by decide, by omega, rfl⟩⟩, Below.refl _ _, Lib.OthersKept.refl _ _ _, by simp⟩

theorem make24 (w : World) : (Instr.makeSlice 60 (.int .i64 0) (.int .i64 24)).run Tryz.prog w = .ok (.slice (some ⟨w.heap.size, 0, none⟩) 0 24) (w.alloc (.cells (madeCells (Value.int .u8 0).cells 24) 5)) := by
  obtain ⟨i, hi, hz0, hz1, hz2⟩ := info_parts info5
  have h := run_makeSlice (P := Tryz.prog) w 60 5 i (.int .u8 0) (by kernel_rfl) hi hz0 .i64 .i64 0 24 (by decide) (by decide) (by rw [hz1]; decide) (by rw [hz2]; decide) (by decide)
  rw [hz1] at h
  exact h

set_option maxRecDepth 100000 in
theorem formatFloat (x : Nat) (prec : Int) (hp0 : -1 ≤ prec) (hp1 : prec ≤ 20) (s : List UInt8) (hs : Ftoa x prec s) (w : World) (hT : Tabs w) :
    Calls Tryz.prog 83 #[.float .f64 x, .int .u8 102, .int .i64 prec, .int .i64 64] w (Ret (.string ⟨s.toArray⟩) w) := by
  have HS := Lib.hid hs
  have HT := Lib.hid hT
  have hms := fun w => make24 w
  have hX := HS.out _ _ (w.alloc (.cells (madeCells #[Value.int .u8 0] 24) 5)) (HT.out.below ((Below.refl _ _).alloc (Nat.le_refl _) _)) (newRow w _ (size_madeCells _ _))
  have HX := Lib.hid hX
  clear hs hT hX
  by_cases h20 : prec = 20
  · subst h20
    go_enter Tryz.func83, Tryz.ntmps83
    go_wp2_with (go_at_call 85; refine HX.out.mono ?_; rintro e w1 ⟨v', rfl, hR1⟩; have hcv := conv_row hR1; have HB := Lib.hid (((Below.refl _ _).alloc (Nat.le_refl _) _ : Below w.heap.size w _).trans hR1.below); clear hR1)
    go_ret
    exact ⟨rfl, HB.out⟩
  · have h24 : prec + 4 < 24 := by omega
    clear h20
    go_enter Tryz.func83, Tryz.ntmps83
    go_wp2_with (go_at_call 85; refine HX.out.mono ?_; rintro e w1 ⟨v', rfl, hR1⟩; have hcv := conv_row hR1; have HB := Lib.hid (((Below.refl _ _).alloc (Nat.le_refl _) _ : Below w.heap.size w _).trans hR1.below); clear hR1)
    go_ret
    exact ⟨rfl, HB.out⟩

theorem formatFloat79 (x : Nat) (prec : Int) (s : List UInt8) (w : World) (h : Calls Tryz.prog 83 #[.float .f64 x, .int .u8 102, .int .i64 prec, .int .i64 64] w (Ret (.string ⟨s.toArray⟩) w)) :
    Calls Tryz.prog 79 #[.float .f64 x, .int .u8 102, .int .i64 prec, .int .i64 64] w (Ret (.string ⟨s.toArray⟩) w) := by
  have H := Lib.hid h
  clear h
  go_enter Tryz.func79, Tryz.ntmps79
  go_wp2_with (go_at_call 83; refine H.out.mono ?_; rintro e w1 ⟨rfl, hB⟩)
  go_ret
  exact ⟨rfl, hB⟩
end Go.Proofs.YtokmamakmaojpaaGreatDoor

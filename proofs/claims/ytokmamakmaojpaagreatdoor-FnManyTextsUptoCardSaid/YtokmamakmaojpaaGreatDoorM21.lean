/-
  G0. The geometries of the package in memory.
  G1. Layout of the package's geometries, called through the interface.
  G2. Empty of a collection without a layout.
  P1. Plain: what good data are.
  E5. The encoder: write.
-/
import Derived.Test.YtokmamakmaojpaaGreatDoorM16
import Derived.Test.YtokmamakmaojpaaGreatDoorM18
import Derived.Test.YtokmamakmaojpaaGreatDoorM19
import Derived.Test.YtokmamakmaojpaaGreatDoorM20
import Derived.Outline
set_option linter.unusedVariables false
set_option linter.unusedSimpArgs false
/- G0. -/
namespace Go.Proofs.YtokmamakmaojpaaGreatDoor
open Go.RowKit

/-- The pointer type of a kind, and the type of its block. -/
def ptrT (k : Int) : TypeId := if k = 1 then 67 else if k = 2 then 70 else if k = 8 then 73 else if k = 3 then 76 else if k = 4 then 80 else if k = 5 then 86 else if k = 6 then 89 else 93
def blkT (k : Int) : TypeId := if k = 1 then 112 else if k = 2 then 119 else if k = 8 then 120 else if k = 3 then 124 else if k = 4 then 128 else if k = 5 then 129 else if k = 6 then 134 else 142
/-- A geometry of the package: an interface value, its block, its rows. -/
inductive TAt (w : World) : Value → G → Prop
  | pt (k l s : Int) (f : List Nat) (e : List Int) (es : List (List Int)) (kids : List G) (b : Nat) (v3 : Value) (hk : k = 1 ∨ k = 2 ∨ k = 8)
      (hb : w.heap[b]? = some (.cells #[.int .i64 l, .int .i64 (strideF l), v3, .int .i64 s] (blkT k) (0, 0))) (h3 : RowAt w v3 f.length 1 (fltC f)) : TAt w (.iface (ptrT k) (.pointer (some ⟨b, 0, none⟩))) (.mk k l s f e es kids)
  | rg (k l s : Int) (f : List Nat) (e : List Int) (es : List (List Int)) (kids : List G) (b : Nat) (v3 v4 : Value) (hk : k = 3 ∨ k = 4 ∨ k = 5)
      (hb : w.heap[b]? = some (.cells #[.int .i64 l, .int .i64 (strideF l), v3, .int .i64 s, v4] (blkT k) (0, 0))) (h3 : RowAt w v3 f.length 1 (fltC f)) (h4 : RowAt w v4 e.length 1 (intC e)) : TAt w (.iface (ptrT k) (.pointer (some ⟨b, 0, none⟩))) (.mk k l s f e es kids)
  | mp (l s : Int) (f : List Nat) (e : List Int) (es : List (List Int)) (kids : List G) (b : Nat) (v3 v5 : Value) (ev : Nat → Value)
      (hb : w.heap[b]? = some (.cells #[.int .i64 l, .int .i64 (strideF l), v3, .int .i64 s, v5] 134 (0, 0))) (h3 : RowAt w v3 f.length 1 (fltC f)) (h5 : RowAt w v5 es.length 1 (fun i _ => ev i))
      (h6 : ∀ i, i < es.length → RowAt w (ev i) (es.getD i []).length 1 (intC (es.getD i []))) : TAt w (.iface 89 (.pointer (some ⟨b, 0, none⟩))) (.mk 6 l s f e es kids)
  | cl (l s : Int) (f : List Nat) (e : List Int) (es : List (List Int)) (kids : List G) (b : Nat) (gv : Value) (kv : Nat → Value)
      (hb : w.heap[b]? = some (.cells #[.int .i64 l, gv, .int .i64 s] 142 (0, 0))) (hg : RowAt w gv kids.length 1 (fun i _ => kv i)) (hk : ∀ i (hi : i < kids.length), TAt w (kv i) kids[i]) : TAt w (.iface 93 (.pointer (some ⟨b, 0, none⟩))) (.mk 7 l s f e es kids)
theorem TAt.stays {w w' : World} {B : Nat} (hB : w.heap.size ≤ B) (hb : Below B w w') {v : Value} {g : G} (h : TAt w v g) : TAt w' v g := by
  have key : ∀ b o, w.heap[b]? = some o → w'.heap[b]? = some o := fun b o h => (hb.block b (Nat.lt_of_lt_of_le (Array.getElem?_eq_some_iff.1 h).1 hB)).trans h
  induction h with
  | pt k l s f e es kids b v3 hk h0 h3 => exact .pt k l s f e es kids b v3 hk (key _ _ h0) (h3.below hB hb)
  | rg k l s f e es kids b v3 v4 hk h0 h3 h4 => exact .rg k l s f e es kids b v3 v4 hk (key _ _ h0) (h3.below hB hb) (h4.below hB hb)
  | mp l s f e es kids b v3 v5 ev h0 h3 h5 h6 => exact .mp l s f e es kids b v3 v5 ev (key _ _ h0) (h3.below hB hb) (h5.below hB hb) (fun i hi => (h6 i hi).below hB hb)
  | cl l s f e es kids b gv kv h0 hg hk ih => exact .cl l s f e es kids b gv kv (key _ _ h0) (hg.below hB hb) ih
/-- Where a geometry of the package lies. -/
theorem TAt.form {w : World} {v : Value} {g : G} (h : TAt w v g) : ∃ b, b < w.heap.size ∧ v = .iface (ptrT g.kind) (.pointer (some ⟨b, 0, none⟩)) := by
  have key : ∀ b (o : Obj), w.heap[b]? = some o → b < w.heap.size := fun b o h => (Array.getElem?_eq_some_iff.1 h).1
  cases h with
  | pt k l s f e es kids b v3 hk h0 h3 => exact ⟨b, key _ _ h0, rfl⟩
  | rg k l s f e es kids b v3 v4 hk h0 h3 h4 => exact ⟨b, key _ _ h0, rfl⟩
  | mp l s f e es kids b v3 v5 ev h0 h3 h5 h6 => exact ⟨b, key _ _ h0, rfl⟩
  | cl l s f e es kids b gv kv h0 hg hk => exact ⟨b, key _ _ h0, rfl⟩

theorem layout154 (b : Nat) (l : Int) (w : World) (h : w.cell? ⟨b, 0, none⟩ = some (.int .i64 l)) : Calls Tryz.prog 154 #[.pointer (some ⟨b, 0, none⟩)] w (Same (.int .i64 l) w) := by
  go_enter Tryz.func154, Tryz.ntmps154
  go_wp2
  go_ret
  exact Same.mk
theorem flat54 (b : Nat) (v : Value) (w : World) (h : w.cell? ⟨b, 2, none⟩ = some v) : Calls Tryz.prog 54 #[.pointer (some ⟨b, 0, none⟩)] w (Same v w) := by
  go_enter Tryz.func54, Tryz.ntmps54
  go_wp2
  go_ret
  exact Same.mk
theorem empty51 (b n c : Nat) (A : Option Addr) (w : World) (h : w.cell? ⟨b, 2, none⟩ = some (.slice A n c)) (hn : n ≤ 2097152) : Calls Tryz.prog 51 #[.pointer (some ⟨b, 0, none⟩)] w (Same (.bool (decide (n = 0))) w) := by
  by_cases h0 : n = 0
  · subst h0
    go_enter Tryz.func51, Tryz.ntmps51
    go_wp2
    go_ret
    exact Same.mk
  · have h1 : ((n : Int) == 0) = false := beq_false_of_ne (by omega)
    rw [decide_eq_false h0]
    clear h0
    go_enter Tryz.func51, Tryz.ntmps51
    go_wp2
    go_ret
    exact Same.mk
theorem ends58 (b : Nat) (v : Value) (w : World) (h : w.cell? ⟨b, 4, none⟩ = some v) : Calls Tryz.prog 58 #[.pointer (some ⟨b, 0, none⟩)] w (Same v w) := by
  go_enter Tryz.func58, Tryz.ntmps58
  go_wp2
  go_ret
  exact Same.mk
theorem endss64 (b : Nat) (v : Value) (w : World) (h : w.cell? ⟨b, 4, none⟩ = some v) : Calls Tryz.prog 64 #[.pointer (some ⟨b, 0, none⟩)] w (Same v w) := by
  go_enter Tryz.func64, Tryz.ntmps64
  go_wp2
  go_ret
  exact Same.mk
theorem num59 (b n c : Nat) (A : Option Addr) (w : World) (h : w.cell? ⟨b, 4, none⟩ = some (.slice A n c)) : Calls Tryz.prog 59 #[.pointer (some ⟨b, 0, none⟩)] w (Same (.int .i64 n) w) := by
  go_enter Tryz.func59, Tryz.ntmps59
  go_wp2
  go_ret
  exact Same.mk
theorem num61 (b n c : Nat) (A : Option Addr) (w : World) (h : w.cell? ⟨b, 4, none⟩ = some (.slice A n c)) : Calls Tryz.prog 61 #[.pointer (some ⟨b, 0, none⟩)] w (Same (.int .i64 n) w) := by
  go_enter Tryz.func61, Tryz.ntmps61
  go_wp2
  go_ret
  exact Same.mk
theorem num62 (b n c : Nat) (A : Option Addr) (w : World) (h : w.cell? ⟨b, 4, none⟩ = some (.slice A n c)) : Calls Tryz.prog 62 #[.pointer (some ⟨b, 0, none⟩)] w (Same (.int .i64 n) w) := by
  go_enter Tryz.func62, Tryz.ntmps62
  go_wp2
  go_ret
  exact Same.mk
theorem num65 (b n c : Nat) (A : Option Addr) (w : World) (h : w.cell? ⟨b, 1, none⟩ = some (.slice A n c)) : Calls Tryz.prog 65 #[.pointer (some ⟨b, 0, none⟩)] w (Same (.int .i64 n) w) := by
  go_enter Tryz.func65, Tryz.ntmps65
  go_wp2
  go_ret
  exact Same.mk
theorem geoms67 (b : Nat) (v : Value) (w : World) (h : w.cell? ⟨b, 1, none⟩ = some v) : Calls Tryz.prog 67 #[.pointer (some ⟨b, 0, none⟩)] w (Same v w) := by
  go_enter Tryz.func67, Tryz.ntmps67
  go_wp2
  go_ret
  exact Same.mk
end Go.Proofs.YtokmamakmaojpaaGreatDoor

/- G1. -/
namespace Go.Proofs.YtokmamakmaojpaaGreatDoor
open Go.RowKit

theorem meth_layout (k : Int) (hk : k = 1 ∨ k = 2 ∨ k = 8 ∨ k = 3 ∨ k = 4 ∨ k = 5 ∨ k = 6) (b : Nat) (w : World) : (method 339 (ptrT k) (.pointer (some ⟨b, 0, none⟩)) "Layout").run Tryz.prog w = .ok (154, .pointer (some ⟨b, 0, none⟩)) w := by
  rcases hk with rfl | rfl | rfl | rfl | rfl | rfl | rfl
  all_goals kernel_rfl
theorem meth_layout7 (b : Nat) (w : World) : (method 339 93 (.pointer (some ⟨b, 0, none⟩)) "Layout").run Tryz.prog w = .ok (164, .pointer (some ⟨b, 0, none⟩)) w := by kernel_rfl
theorem meth_empty (k : Int) (hk : k = 1 ∨ k = 2 ∨ k = 8 ∨ k = 3 ∨ k = 4 ∨ k = 5 ∨ k = 6) (b : Nat) (w : World) : (method 339 (ptrT k) (.pointer (some ⟨b, 0, none⟩)) "Empty").run Tryz.prog w = .ok (51, .pointer (some ⟨b, 0, none⟩)) w := by
  rcases hk with rfl | rfl | rfl | rfl | rfl | rfl | rfl
  all_goals kernel_rfl
theorem meth_empty7 (b : Nat) (w : World) : (method 339 93 (.pointer (some ⟨b, 0, none⟩)) "Empty").run Tryz.prog w = .ok (49, .pointer (some ⟨b, 0, none⟩)) w := by kernel_rfl

/-- The part of a switch on layouts in which the greatest so far is raised. -/
theorem coverF_2 {a : Int} : coverF a 2 = if a = 3 then 4 else if a < 2 then 2 else a := by
  unfold coverF
  split <;> split <;> (try split) <;> omega
theorem coverF_3 {a : Int} : coverF a 3 = if a = 2 then 4 else if a < 3 then 3 else a := by
  unfold coverF
  split <;> split <;> (try split) <;> omega
theorem coverF_else {a r : Int} (h2 : r ≠ 2) (h3 : r ≠ 3) : coverF a r = if a < r then r else a := by
  unfold coverF
  split <;> split <;> omega

/-- What is known of a geometry of the package of which the layout is asked. -/
def LayC (w : World) (v : Value) (g : G) : Prop := ∃ T K b, v = .iface T (.pointer (some ⟨b, 0, none⟩)) ∧ (∀ w', (method 339 T (.pointer (some ⟨b, 0, none⟩)) "Layout").run Tryz.prog w' = .ok (K, .pointer (some ⟨b, 0, none⟩)) w') ∧
  (∀ args w', (callFunc K args).run Tryz.prog w' = .ok (.enter K args) w') ∧ ∀ w', Below w.heap.size w w' → Calls Tryz.prog K #[.pointer (some ⟨b, 0, none⟩)] w' (Same (.int .i64 (layT g)) w')
theorem LayC.leaf {w : World} {k l s : Int} {f : List Nat} {e : List Int} {es : List (List Int)} {kids : List G} {b : Nat} {cs : Array Value} {T : TypeId} (hk : k = 1 ∨ k = 2 ∨ k = 8 ∨ k = 3 ∨ k = 4 ∨ k = 5 ∨ k = 6) (hb : w.heap[b]? = some (.cells cs T (0, 0))) (h0 : cs[0]? = some (.int .i64 l)) :
    LayC w (.iface (ptrT k) (.pointer (some ⟨b, 0, none⟩))) (.mk k l s f e es kids) := by
  refine ⟨_, 154, b, rfl, meth_layout k hk b, Tryz.call154, fun w' h => ?_⟩
  rw [layT_own _ _ _ _ _ _ _ (Or.inl (by omega))]
  exact layout154 b l w' ((h.cell (p := ⟨b, 0, none⟩) (Array.getElem?_eq_some_iff.1 hb).1).trans ((Lib.cell_of_heap hb 0).trans h0))

set_option maxRecDepth 100000 in
set_option maxHeartbeats 4000000 in
theorem layout164 (w0 : World) (b : Nat) (l s : Int) (kids : List G) (gv : Value) (kv : Nat → Value) (hb : w0.heap[b]? = some (.cells #[.int .i64 l, gv, .int .i64 s] 142 (0, 0))) (hg : RowAt w0 gv kids.length 1 (fun i _ => kv i))
    (hl0 : 0 ≤ l) (hl4 : l ≤ 4) (hY : ∀ i (hi : i < kids.length), layB 4 kids[i] = true) (hc : ∀ i (hi : i < kids.length), LayC w0 (kv i) kids[i]) (f : List Nat) (e : List Int) (es : List (List Int)) (w : World) (hw : Below w0.heap.size w0 w) :
    Calls Tryz.prog 164 #[.pointer (some ⟨b, 0, none⟩)] w (Same (.int .i64 (layT (.mk 7 l s f e es kids))) w) := by
  have hlt := (Array.getElem?_eq_some_iff.1 hb).1
  have c0 : w.cell? ⟨b, 0, none⟩ = some (.int .i64 l) := (hw.cell (p := ⟨b, 0, none⟩) hlt).trans (Lib.cell_of_heap hb 0)
  have c1 : w.cell? ⟨b, 1, none⟩ = some gv := (hw.cell (p := ⟨b, 1, none⟩) hlt).trans (Lib.cell_of_heap hb 1)
  by_cases h0 : l = 0
  · subst h0
    have hT := layT_kids 7 0 s f e es kids rfl rfl
    rw [hT]
    obtain ⟨A, cap, rfl, hn0, hn1, _⟩ := id hg
    unfold maxLen at hn1
    have HY := Lib.hid hY
    have HC := Lib.hid hc
    have HW := Lib.hid hw
    obtain ⟨n, hn⟩ : ∃ n, kids.length = n := ⟨_, rfl⟩
    rw [hn] at hn0 hg c1
    have HN := Lib.hid hn
    have HG := Lib.hid hg
    obtain ⟨L, hL⟩ : ∃ L, layTs kids 0 = L := ⟨_, rfl⟩
    have HL := Lib.hid hL
    rw [hL]
    clear hT hY hc hw hn hg hL hb hlt
    go_enter Tryz.func164, Tryz.ntmps164
    go_wp2_with (fail)
    go_loopg [3, 21] n (fun gk v3 vc wr => w = wr ∧ ∃ i : Nat, i + gk = n ∧ vc = .int .i64 i ∧ ∃ a : Int, v3 = .int .i64 a ∧ 0 ≤ a ∧ a ≤ 4 ∧ Hid (L = layTs (kids.drop i) a))
    case atStart => exact ⟨rfl, 0, by omega, rfl, 0, rfl, by omega, by omega, Lib.hid HL.out.symm⟩
    case round =>
      obtain ⟨rfl, i, hi, rfl, a, rfl, ha0, ha1, hL⟩ := hrel
      by_cases hlt : i < n
      · have HI := Lib.hid hi
        have hil : i < kids.length := by rw [HN.out]; exact hlt
        have hD := layTs_drop kids a i hil
        obtain ⟨hr0, hr1⟩ := layT_rng (m := 4) (by omega) _ (HY.out i hil)
        obtain ⟨bb, o, rfl, _, h0⟩ := (HG.out.below (Nat.le_refl _) HW.out).one hlt
        obtain ⟨T, K, kb, hv, hm, he, hcall⟩ := HC.out i hil
        have HCALL := Lib.hid (hcall w HW.out)
        rw [hv] at h0
        obtain ⟨r, hr⟩ : ∃ r, layT kids[i] = r := ⟨_, rfl⟩
        rw [hr] at hD hr0 hr1 HCALL
        have hc4 : 0 ≤ coverF a r ∧ coverF a r ≤ 4 := ⟨coverF_lo ha0, coverF_hi (by omega) ha1 hr1⟩
        have HC4 := Lib.hid hc4
        have HD := Lib.hid hD
        clear hi hv hcall hr hD hc4
        by_cases r2 : r = 2
        · subst r2
          have HCF := Lib.hid (coverF_2 (a := a))
          by_cases a3 : a = 3
          · subst a3
            go_wp2_with (fail)
            refine HCALL.out.mono ?_
            rintro e1 w1 ⟨rfl, rfl⟩
            go_wp2_with (fail)
            go_roundg (n - (i + 1))
            case measure => have := HI.out; omega
            case rel => exact ⟨rfl, i + 1, by omega, by go_num, coverF 3 2, by rfl, HC4.out.1, HC4.out.2, Lib.hid (by rw [hL.out, HD.out])⟩
          · have a3' : (a == 3) = false := beq_false_of_ne a3
            rw [if_neg a3] at HCF
            by_cases alt : a < 2
            · rw [if_pos alt] at HCF
              clear a3
              go_wp2_with (fail)
              refine HCALL.out.mono ?_
              rintro e1 w1 ⟨rfl, rfl⟩
              go_wp2_with (fail)
              go_roundg (n - (i + 1))
              case measure => have := HI.out; omega
              case rel => exact ⟨rfl, i + 1, by omega, by go_num, coverF a 2, by rw [HCF.out], HC4.out.1, HC4.out.2, Lib.hid (by rw [hL.out, HD.out])⟩
            · rw [if_neg alt] at HCF
              clear a3
              go_wp2_with (fail)
              refine HCALL.out.mono ?_
              rintro e1 w1 ⟨rfl, rfl⟩
              go_wp2_with (fail)
              go_roundg (n - (i + 1))
              case measure => have := HI.out; omega
              case rel => exact ⟨rfl, i + 1, by omega, by go_num, coverF a 2, by rw [HCF.out], HC4.out.1, HC4.out.2, Lib.hid (by rw [hL.out, HD.out])⟩
        by_cases r3 : r = 3
        · subst r3
          have HCF := Lib.hid (coverF_3 (a := a))
          clear r2
          by_cases a3 : a = 2
          · subst a3
            go_wp2_with (fail)
            refine HCALL.out.mono ?_
            rintro e1 w1 ⟨rfl, rfl⟩
            go_wp2_with (fail)
            go_roundg (n - (i + 1))
            case measure => have := HI.out; omega
            case rel => exact ⟨rfl, i + 1, by omega, by go_num, coverF 2 3, by rfl, HC4.out.1, HC4.out.2, Lib.hid (by rw [hL.out, HD.out])⟩
          · have a3' : (a == 2) = false := beq_false_of_ne a3
            rw [if_neg a3] at HCF
            by_cases alt : a < 3
            · rw [if_pos alt] at HCF
              clear a3
              go_wp2_with (fail)
              refine HCALL.out.mono ?_
              rintro e1 w1 ⟨rfl, rfl⟩
              go_wp2_with (fail)
              go_roundg (n - (i + 1))
              case measure => have := HI.out; omega
              case rel => exact ⟨rfl, i + 1, by omega, by go_num, coverF a 3, by rw [HCF.out], HC4.out.1, HC4.out.2, Lib.hid (by rw [hL.out, HD.out])⟩
            · rw [if_neg alt] at HCF
              clear a3
              go_wp2_with (fail)
              refine HCALL.out.mono ?_
              rintro e1 w1 ⟨rfl, rfl⟩
              go_wp2_with (fail)
              go_roundg (n - (i + 1))
              case measure => have := HI.out; omega
              case rel => exact ⟨rfl, i + 1, by omega, by go_num, coverF a 3, by rw [HCF.out], HC4.out.1, HC4.out.2, Lib.hid (by rw [hL.out, HD.out])⟩
        have r2' : (r == 2) = false := beq_false_of_ne r2
        have r3' : (r == 3) = false := beq_false_of_ne r3
        have HCF := Lib.hid (coverF_else (a := a) r2 r3)
        clear r2 r3
        by_cases alt : a < r
        · rw [if_pos alt] at HCF
          go_wp2_with (fail)
          refine HCALL.out.mono ?_
          rintro e1 w1 ⟨rfl, rfl⟩
          go_wp2_with (fail)
          go_roundg (n - (i + 1))
          case measure => have := HI.out; omega
          case rel => exact ⟨rfl, i + 1, by omega, by go_num, coverF a r, by rw [HCF.out], HC4.out.1, HC4.out.2, Lib.hid (by rw [hL.out, HD.out])⟩
        · rw [if_neg alt] at HCF
          go_wp2_with (fail)
          refine HCALL.out.mono ?_
          rintro e1 w1 ⟨rfl, rfl⟩
          go_wp2_with (fail)
          go_roundg (n - (i + 1))
          case measure => have := HI.out; omega
          case rel => exact ⟨rfl, i + 1, by omega, by go_num, coverF a r, by rw [HCF.out], HC4.out.1, HC4.out.2, Lib.hid (by rw [hL.out, HD.out])⟩
      · have ei : i = n := by omega
        subst ei
        have HLL : Hid (a = L) := Lib.hid (by rw [hL.out, ← HN.out, List.drop_length]; rfl)
        clear hL hi
        go_wp2_with (fail)
        go_ret
        exact ⟨by rw [← HLL.out]; rfl, rfl⟩
  · rw [layT_own 7 l s f e es kids (Or.inr h0)]
    have h0' : (l == 0) = false := beq_false_of_ne h0
    clear h0 hw hg hY hc hb hlt
    go_enter Tryz.func164, Tryz.ntmps164
    go_wp2_with (fail)
    go_ret
    exact ⟨rfl, rfl⟩
/-- The layout of a geometry of the package, asked through the interface. -/
theorem TAt.layC {w : World} {v : Value} {g : G} (h : TAt w v g) (hY : layB 4 g = true) : LayC w v g := by
  induction h with
  | pt k l s f e es kids b v3 hk h0 h3 => exact LayC.leaf (by omega) h0 rfl
  | rg k l s f e es kids b v3 v4 hk h0 h3 h4 => exact LayC.leaf (by omega) h0 rfl
  | mp l s f e es kids b v3 v5 ev h0 h3 h5 h6 => exact LayC.leaf (k := 6) (by omega) h0 rfl
  | cl l s f e es kids b gv kv h0 hg hk ih =>
    have ho := layB_own hY
    exact ⟨93, 164, b, rfl, meth_layout7 b, Tryz.call164, fun w' hw => layout164 w b l s kids gv kv h0 hg ho.1 ho.2.1 (layB_kid hY) (fun i hi => ih i hi (layB_kid hY i hi)) f e es w' hw⟩
end Go.Proofs.YtokmamakmaojpaaGreatDoor

/- G2. -/
namespace Go.Proofs.YtokmamakmaojpaaGreatDoor
open Go.RowKit

theorem coverF_ge {a b : Int} : a ≤ coverF a b ∧ b ≤ coverF a b := by
  unfold coverF
  split <;> omega
theorem layTs_ge : ∀ (l : List G) (a : Int), a ≤ layTs l a ∧ ∀ i (h : i < l.length), layT l[i] ≤ layTs l a
  | [], a => ⟨Int.le_refl _, fun i h => absurd h (by simp)⟩
  | g :: gs, a => by
    obtain ⟨h1, h2⟩ := layTs_ge gs (coverF a (layT g))
    obtain ⟨h3, h4⟩ := coverF_ge (a := a) (b := layT g)
    refine ⟨Int.le_trans h3 h1, fun i h => ?_⟩
    cases i with
    | zero => exact Int.le_trans h4 h1
    | succ i => exact h2 i (by simpa using h)
/-- Of no layout are collections alone, of parts of no layout. -/
theorem layT_zero {k l s : Int} {f : List Nat} {e : List Int} {es : List (List Int)} {kids : List G} (hY : layB 4 (.mk k l s f e es kids) = true) (h : layT (.mk k l s f e es kids) = 0) : k = 7 ∧ l = 0 ∧ ∀ i (hi : i < kids.length), layT kids[i] = 0 := by
  have ho := layB_own hY
  by_cases h1 : k ≠ 7 ∨ l ≠ 0
  · rw [layT_own k l s f e es kids h1] at h
    omega
  · have hk : k = 7 ∧ l = 0 := by omega
    refine ⟨hk.1, hk.2, fun i hi => ?_⟩
    rw [layT_kids k l s f e es kids hk.1 hk.2] at h
    have h2 := (layTs_ge kids 0).2 i hi
    have h3 := (layT_rng (m := 4) (by omega) _ (layB_kid hY i hi)).1
    omega

/-- What is known of a geometry of the package without a layout. -/
def EmpC (w : World) (v : Value) : Prop := ∃ b, v = .iface 93 (.pointer (some ⟨b, 0, none⟩)) ∧ ∀ w', Below w.heap.size w w' → Calls Tryz.prog 49 #[.pointer (some ⟨b, 0, none⟩)] w' (Same (.bool true) w')

set_option maxHeartbeats 2000000 in
theorem empty49 (w0 : World) (b n : Nat) (gv v0 v2 : Value) (kv : Nat → Value) (hb : w0.heap[b]? = some (.cells #[v0, gv, v2] 142 (0, 0))) (hg : RowAt w0 gv n 1 (fun i _ => kv i)) (hc : ∀ i, i < n → EmpC w0 (kv i)) (w : World) (hw : Below w0.heap.size w0 w) :
    Calls Tryz.prog 49 #[.pointer (some ⟨b, 0, none⟩)] w (Same (.bool true) w) := by
  have hlt := (Array.getElem?_eq_some_iff.1 hb).1
  have c1 : w.cell? ⟨b, 1, none⟩ = some gv := (hw.cell (p := ⟨b, 1, none⟩) hlt).trans (Lib.cell_of_heap hb 1)
  obtain ⟨A, cap, rfl, hn0, hn1, _⟩ := id hg
  unfold maxLen at hn1
  have HC := Lib.hid hc
  have HW := Lib.hid hw
  have HG := Lib.hid hg
  clear hc hw hg hb hlt
  go_enter Tryz.func49, Tryz.ntmps49
  go_wp2_with (fail)
  go_loopg [10] n (fun gk vc wr => w = wr ∧ ∃ i : Nat, i + gk = n ∧ vc = .int .i64 i)
  case atStart => exact ⟨rfl, 0, by omega, rfl⟩
  case round =>
    obtain ⟨rfl, i, hi, rfl⟩ := hrel
    by_cases hlt : i < n
    · have HI := Lib.hid hi
      obtain ⟨bb, o, rfl, _, h0⟩ := (HG.out.below (Nat.le_refl _) HW.out).one hlt
      obtain ⟨kb, hv, hcall⟩ := HC.out i hlt
      have HCALL := Lib.hid (hcall w HW.out)
      have hm := fun w => meth_empty7 kb w
      rw [hv] at h0
      clear hi hv hcall
      go_wp2_with (fail)
      refine HCALL.out.mono ?_
      rintro e1 w1 ⟨rfl, rfl⟩
      go_wp2_with (fail)
      go_roundg (n - (i + 1))
      case measure => have := HI.out; omega
      case rel => exact ⟨rfl, i + 1, by omega, by go_num⟩
    · have ei : i = n := by omega
      subst ei
      clear hi
      go_wp2_with (fail)
      go_ret
      exact ⟨rfl, rfl⟩
theorem TAt.empC {w : World} {v : Value} {g : G} (h : TAt w v g) : layB 4 g = true → layT g = 0 → EmpC w v := by
  induction h with
  | pt k l s f e es kids b v3 hk h0 h3 =>
    intro hY h
    have := (layT_zero hY h).1
    omega
  | rg k l s f e es kids b v3 v4 hk h0 h3 h4 =>
    intro hY h
    have := (layT_zero hY h).1
    omega
  | mp l s f e es kids b v3 v5 ev h0 h3 h5 h6 =>
    intro hY h
    have := (layT_zero hY h).1
    omega
  | cl l s f e es kids b gv kv h0 hg hk ih =>
    intro hY h
    exact ⟨b, rfl, fun w' hw => empty49 w b kids.length gv _ _ kv h0 hg (fun i hi => ih i hi (layB_kid hY i hi) ((layT_zero hY h).2.2 i hi)) w' hw⟩
end Go.Proofs.YtokmamakmaojpaaGreatDoor

/- P1. -/
namespace Go.Proofs.YtokmamakmaojpaaGreatDoor
open Go.RowKit

theorem prevE_cons (start : Nat) (e : Int) (es : List Int) (i : Nat) : prevE start (e :: es) (i + 1) = prevE e.toNat es i := by
  rw [prevE_succ]
  cases i with
  | zero => rfl
  | succ i =>
    rw [prevE_succ]
    rfl
theorem gends_true (st : Nat) (hst : 0 < st) (sg : Bool) : ∀ (es : List Int) (a : Nat) (t : Nat), gends st sg a es = ((t : Int), true) →
    a ≤ t ∧ EOk st t a es ∧ (sg = true → ∀ i, i < es.length → (es.getD i 0).toNat - prevE a es i ≤ st) ∧ (es.length = 0 → a = t) ∧ (0 < es.length → (es.getD (es.length - 1) 0).toNat = t)
  | [], a, t, h => by
    unfold gends at h
    have h1 : (a : Int) = t := congrArg Prod.fst h
    exact ⟨by omega, fun i hi => absurd hi (by simp), fun _ i hi => absurd hi (by simp), fun _ => by omega, fun h => absurd h (by simp)⟩
  | e :: es, a, t, h => by
    by_cases hc : e < a ∨ (e - a) % (st : Int) ≠ 0 ∨ (sg = true ∧ (st : Int) < e - a)
    · rw [gends_no hc] at h
      exact absurd (congrArg Prod.snd h) (by simp)
    · rw [gends_yes hc] at h
      obtain ⟨E, rfl⟩ : ∃ E : Nat, e = E := ⟨e.toNat, by omega⟩
      obtain ⟨h1, h2, h3, h4, h5⟩ := gends_true st hst sg es E t h
      have hc1 : a ≤ E := by omega
      have hm : (E - a) % st = 0 := by
        have : ((E : Int) - a) % (st : Int) = 0 := by
          rcases Classical.em (((E : Int) - a) % (st : Int) = 0) with h6 | h6
          · exact h6
          · exact absurd (Or.inr (Or.inl h6)) hc
        have e1 : ((E : Int) - a) = ((E - a : Nat) : Int) := by omega
        rw [e1] at this
        exact_mod_cast this
      refine ⟨by omega, fun i hi => ?_, fun hs i hi => ?_, fun h => absurd h (by simp), fun _ => ?_⟩
      · cases i with
        | zero =>
          refine ⟨by simp, ?_, ?_, ?_⟩
          · simp [prevE]; exact hc1
          · simp; exact h1
          · simp [prevE]; exact hm
        | succ i =>
          have := h2 i (by simpa using hi)
          rw [prevE_cons]
          simpa using this
      · cases i with
        | zero =>
          have : ¬ ((st : Int) < E - a) := fun h6 => hc (Or.inr (Or.inr ⟨hs, h6⟩))
          simp [prevE]
          omega
        | succ i =>
          have := h3 hs i (by simpa using hi)
          rw [prevE_cons]
          simpa using this
      · cases es with
        | nil =>
          have := h4 rfl
          simp
          omega
        | cons x xs =>
          have := h5 (by simp)
          simpa using this
theorem EOk.mono {st L L' start : Nat} {ends : List Int} (h : EOk st L start ends) (hL : L ≤ L') : EOk st L' start ends := fun i hi => by
  obtain ⟨h1, h2, h3, h4⟩ := h i hi
  exact ⟨h1, h2, by omega, h4⟩
theorem gss_false (st : Int) : ∀ (es : List (List Int)) (a : Int), (gss st a false es).2 = false
  | [], _ => rfl
  | e :: es, a => by
    rw [gss, Bool.false_and]
    exact gss_false st es _
/-- Where the part k begins, if the first begins at a. -/
def startAt (a : Nat) (endss : List (List Int)) : Nat → Nat
  | 0 => a
  | k + 1 => if (endss.getD k []).length = 0 then startAt a endss k else ((endss.getD k []).getD ((endss.getD k []).length - 1) 0).toNat
theorem startAt_zero (es : List (List Int)) : ∀ k, startAt 0 es k = startOf es k
  | 0 => rfl
  | k + 1 => by
    unfold startAt startOf
    rw [startAt_zero es k]
theorem startAt_cons (a : Nat) (e : List Int) (es : List (List Int)) : ∀ k, startAt a (e :: es) (k + 1) = startAt (if e.length = 0 then a else (e.getD (e.length - 1) 0).toNat) es k
  | 0 => rfl
  | k + 1 => by
    have ih := startAt_cons a e es k
    show (if ((e :: es).getD (k + 1) []).length = 0 then startAt a (e :: es) (k + 1) else _) = (if (es.getD k []).length = 0 then startAt _ es k else _)
    rw [ih]
    rfl
theorem gss_true (st : Nat) (hst : 0 < st) : ∀ (es : List (List Int)) (a : Nat) (t : Nat), (∀ l ∈ es, ∀ e ∈ l, RngI e) → gss st a true es = ((t : Int), true) →
    a ≤ t ∧ ∀ i, i < es.length → startAt a es i ≤ t ∧ EOk st t (startAt a es i) (es.getD i [])
  | [], a, t, _, h => by
    unfold gss at h
    have h1 : (a : Int) = t := congrArg Prod.fst h
    exact ⟨by omega, fun i hi => absurd hi (by simp)⟩
  | e :: es, a, t, hr, h => by
    rw [gss, Bool.true_and] at h
    cases h2 : (gends (st : Int) false a e).2 with
    | false =>
      rw [h2] at h
      have := gss_false st es (gends (st : Int) false a e).1
      rw [h] at this
      simp at this
    | true =>
      rw [h2] at h
      have hn : 0 ≤ (gends (st : Int) false a e).1 := by
        have : ∀ (es : List Int) (a : Int), 0 ≤ a → 0 ≤ (gends (st : Int) false a es).1 := by
          intro es
          induction es with
          | nil => intro a h; exact h
          | cons x xs ih =>
            intro a h
            unfold gends
            split
            · exact h
            · exact ih x (by omega)
        exact this e a (by omega)
      obtain ⟨m, hm⟩ : ∃ m : Nat, (gends (st : Int) false a e).1 = m := ⟨_, (Int.toNat_of_nonneg hn).symm⟩
      rw [hm] at h
      have hg : gends (st : Int) false a e = ((m : Int), true) := Prod.ext hm h2
      obtain ⟨g1, g2, _, g4, g5⟩ := gends_true st hst false e a m hg
      obtain ⟨k1, k2⟩ := gss_true st hst es m t (fun l hl => hr l (by simp [hl])) h
      have hstart : (if e.length = 0 then a else (e.getD (e.length - 1) 0).toNat) = m := by
        split
        · rename_i h0
          exact g4 h0
        · exact g5 (by omega)
      refine ⟨by omega, fun i hi => ?_⟩
      cases i with
      | zero =>
        refine ⟨?_, ?_⟩
        · show a ≤ t
          omega
        · show EOk st t a e
          exact g2.mono k1
      | succ i =>
        rw [startAt_cons, hstart]
        exact k2 i (by simpa using hi)
mutual
/-- All numbers are bits of 64. -/
def gok : G → Prop
  | .mk _ _ _ f _ es kids => (∀ x ∈ f, x < 18446744073709551616) ∧ (∀ l ∈ es, ∀ e ∈ l, RngI e) ∧ goks kids
def goks : List G → Prop
  | [] => True
  | g :: gs => gok g ∧ goks gs
end
theorem goks_of : ∀ (l : List G), (∀ i (h : i < l.length), gok l[i]) → goks l
  | [], _ => trivial
  | g :: gs, h => ⟨h 0 (by simp), goks_of gs fun i hi => h (i + 1) (by simpa using hi)⟩
theorem goks_at : ∀ (l : List G), goks l → ∀ i (h : i < l.length), gok l[i]
  | [], _, i, h => absurd h (by simp)
  | g :: gs, hg, 0, _ => hg.1
  | g :: gs, hg, i + 1, h => goks_at gs hg.2 i (by simpa using h)
theorem GAt.gok {w : World} {c : Nat → Value} {g : G} (h : GAt w c g) : gok g := by
  induction h with
  | mk kind layout srid flat ends endss kids c ev kc hr h0 h1 h2 h3 h4 h5 h5' h6 h7 ih =>
    exact ⟨hr.flat, hr.endss, goks_of kids ih⟩

/-- What good data of all but collections are. -/
structure LeafP (k : Int) (st : Nat) (f : List Nat) (e : List Int) (es : List (List Int)) : Prop where
  mod : f.length % st = 0
  point : k = 1 → f.length ≤ st
  ends : k = 3 ∨ k = 4 ∨ k = 5 → EOk st f.length 0 e ∧ (k = 4 → ∀ i, i < e.length → (e.getD i 0).toNat - prevE 0 e i ≤ st) ∧ (e.length = 0 → f.length = 0)
  endss : k = 6 → ∀ i, i < es.length → startOf es i ≤ f.length ∧ EOk st f.length (startOf es i) (es.getD i [])
  kind : k = 1 ∨ k = 2 ∨ k = 8 ∨ k = 3 ∨ k = 4 ∨ k = 5 ∨ k = 6
theorem leaf_of {k l s : Int} {f : List Nat} {e : List Int} {es : List (List Int)} {kids : List G} (hk : k ≠ 7) (hl1 : 1 ≤ l) (hl9 : l ≤ 9) (ho : gok (.mk k l s f e es kids)) (h : goodB (.mk k l s f e es kids) = true) :
    LeafP k (strideF l).toNat f e es ∧ kids = [] := by
  obtain ⟨hS0, hS1⟩ := strideF_rng hl1 hl9
  obtain ⟨st, hst⟩ : ∃ st : Nat, strideF l = st := ⟨(strideF l).toNat, by omega⟩
  rw [goodB_leaf hk, hst] at h
  rw [hst, Int.toNat_natCast]
  rw [hst] at hS0
  by_cases hc : (f.length : Int) % (st : Int) ≠ 0 ∨ 0 < kids.length ∨ (0 < es.length ∧ k ≠ 6)
  · rw [if_pos hc] at h
    exact absurd h (by simp)
  · rw [if_neg hc] at h
    have hm : f.length % st = 0 := by
      have : (f.length : Int) % (st : Int) = 0 := by
        rcases Classical.em ((f.length : Int) % (st : Int) = 0) with h6 | h6
        · exact h6
        · exact absurd (Or.inl h6) hc
      exact_mod_cast this
    have hkid : kids = [] := by
      cases kids with
      | nil => rfl
      | cons a r => exact absurd (Or.inr (Or.inl (by simp))) hc
    refine ⟨⟨hm, fun h1 => ?_, fun h1 => ?_, fun h1 => ?_, ?_⟩, hkid⟩
    · subst h1
      simp [leafB] at h
      omega
    · have h2 : ((gends (st : Int) (k == 4) 0 e).2 && decide ((gends (st : Int) (k == 4) 0 e).1 = (f.length : Int))) = true := by
        rcases h1 with rfl | rfl | rfl <;> simpa [leafB] using h
      rw [Bool.and_eq_true, decide_eq_true_eq] at h2
      obtain ⟨g1, g2, g3, g4, g5⟩ := gends_true st (by omega) (k == 4) e 0 f.length (Prod.ext h2.2 h2.1)
      exact ⟨g2, fun h4 i hi => g3 (by rw [h4]; rfl) i hi, fun h0 => (g4 h0).symm⟩
    · subst h1
      have h2 : (gss (st : Int) 0 true es).2 = true ∧ (gss (st : Int) 0 true es).1 = (f.length : Int) := by
        simp [leafB] at h
        exact ⟨h.1.1, h.1.2⟩
      obtain ⟨_, g2⟩ := gss_true st (by omega) es 0 f.length ho.2.1 (Prod.ext h2.2 h2.1)
      intro i hi
      have := g2 i hi
      rw [startAt_zero] at this
      exact this
    · by_cases h1 : k = 1
      · omega
      by_cases h2 : k = 2 ∨ k = 8
      · omega
      by_cases h3 : k = 3 ∨ k = 4 ∨ k = 5
      · omega
      by_cases h6 : k = 6
      · omega
      · simp [leafB, h1, h2, h3, h6] at h
theorem coll_of {l s : Int} {f : List Nat} {e : List Int} {es : List (List Int)} {kids : List G} (h : goodB (.mk 7 l s f e es kids) = true) : ∀ i (hi : i < kids.length), goodB kids[i] = true ∧ (l = 0 ∨ layT kids[i] = l) := by
  rw [goodB_coll, Bool.and_eq_true] at h
  have key : ∀ (kids : List G), goodBs l kids = true → ∀ i (hi : i < kids.length), goodB kids[i] = true ∧ (l = 0 ∨ layT kids[i] = l) := by
    intro kids
    induction kids with
    | nil => intro _ i hi; exact absurd hi (by simp)
    | cons a r ih =>
      intro h i hi
      rw [goodBs, Bool.and_eq_true, Bool.and_eq_true, Bool.or_eq_true, decide_eq_true_eq, decide_eq_true_eq] at h
      cases i with
      | zero => exact h.1
      | succ i => exact ih h.2 i (by simpa using hi)
  exact key kids h.1
end Go.Proofs.YtokmamakmaojpaaGreatDoor

/- E5. -/
namespace Go.Proofs.YtokmamakmaojpaaGreatDoor
open Go.RowKit

theorem ta_yes {T : TypeId} (hT : T = 67 ∨ T = 70 ∨ T = 73 ∨ T = 76 ∨ T = 80 ∨ T = 86 ∨ T = 89 ∨ T = 93) (b : Nat) (w : World) : (Instr.typeAssert (.iface T (.pointer (some ⟨b, 0, none⟩))) 47 T true).run Tryz.prog w = .ok (.tuple #[.pointer (some ⟨b, 0, none⟩), .bool true]) w := by
  rcases hT with rfl | rfl | rfl | rfl | rfl | rfl | rfl | rfl
  all_goals kernel_rfl
theorem ta_no {T U : TypeId} (hT : T = 67 ∨ T = 70 ∨ T = 73 ∨ T = 76 ∨ T = 80 ∨ T = 86 ∨ T = 89 ∨ T = 93) (hU : U = 67 ∨ U = 70 ∨ U = 73 ∨ U = 76 ∨ U = 80 ∨ U = 86 ∨ U = 89 ∨ U = 93) (hne : T ≠ U) (b : Nat) (w : World) :
    (Instr.typeAssert (.iface T (.pointer (some ⟨b, 0, none⟩))) 47 U true).run Tryz.prog w = .ok (.tuple #[.pointer none, .bool false]) w := by
  rcases hT with rfl | rfl | rfl | rfl | rfl | rfl | rfl | rfl <;> rcases hU with rfl | rfl | rfl | rfl | rfl | rfl | rfl | rfl
  all_goals first | exact absurd rfl hne | kernel_rfl

theorem TAt.pt_inv {w : World} {v : Value} {k l s : Int} {f : List Nat} {e : List Int} {es : List (List Int)} {kids : List G} (hk : k = 1 ∨ k = 2 ∨ k = 8) (h : TAt w v (.mk k l s f e es kids)) :
    ∃ b v3, v = .iface (ptrT k) (.pointer (some ⟨b, 0, none⟩)) ∧ b < w.heap.size ∧ (∀ w', Below w.heap.size w w' → w'.cell? ⟨b, 0, none⟩ = some (.int .i64 l) ∧ w'.cell? ⟨b, 2, none⟩ = some v3) ∧ RowAt w v3 f.length 1 (fltC f) := by
  cases h with
  | pt _ _ _ _ _ _ _ b v3 _ hb h3 =>
    have hlt := (Array.getElem?_eq_some_iff.1 hb).1
    exact ⟨b, v3, rfl, hlt, fun w' hw => ⟨(hw.cell (p := ⟨b, 0, none⟩) hlt).trans (Lib.cell_of_heap hb 0), (hw.cell (p := ⟨b, 2, none⟩) hlt).trans (Lib.cell_of_heap hb 2)⟩, h3⟩
  | rg _ _ _ _ _ _ _ b v3 v4 hk' hb h3 h4 => omega
  | mp => omega
  | cl => omega
theorem TAt.rg_inv {w : World} {v : Value} {k l s : Int} {f : List Nat} {e : List Int} {es : List (List Int)} {kids : List G} (hk : k = 3 ∨ k = 4 ∨ k = 5) (h : TAt w v (.mk k l s f e es kids)) :
    ∃ b v3 v4, v = .iface (ptrT k) (.pointer (some ⟨b, 0, none⟩)) ∧ b < w.heap.size ∧ (∀ w', Below w.heap.size w w' → w'.cell? ⟨b, 0, none⟩ = some (.int .i64 l) ∧ w'.cell? ⟨b, 2, none⟩ = some v3 ∧ w'.cell? ⟨b, 4, none⟩ = some v4) ∧ RowAt w v3 f.length 1 (fltC f) ∧ RowAt w v4 e.length 1 (intC e) := by
  cases h with
  | pt _ _ _ _ _ _ _ b v3 hk' hb h3 => omega
  | rg _ _ _ _ _ _ _ b v3 v4 _ hb h3 h4 =>
    have hlt := (Array.getElem?_eq_some_iff.1 hb).1
    exact ⟨b, v3, v4, rfl, hlt, fun w' hw => ⟨(hw.cell (p := ⟨b, 0, none⟩) hlt).trans (Lib.cell_of_heap hb 0), (hw.cell (p := ⟨b, 2, none⟩) hlt).trans (Lib.cell_of_heap hb 2), (hw.cell (p := ⟨b, 4, none⟩) hlt).trans (Lib.cell_of_heap hb 4)⟩, h3, h4⟩
  | mp => omega
  | cl => omega
theorem TAt.mp_inv {w : World} {v : Value} {l s : Int} {f : List Nat} {e : List Int} {es : List (List Int)} {kids : List G} (h : TAt w v (.mk 6 l s f e es kids)) :
    ∃ b v3 v5, v = .iface 89 (.pointer (some ⟨b, 0, none⟩)) ∧ b < w.heap.size ∧ (∀ w', Below w.heap.size w w' → w'.cell? ⟨b, 0, none⟩ = some (.int .i64 l) ∧ w'.cell? ⟨b, 2, none⟩ = some v3 ∧ w'.cell? ⟨b, 4, none⟩ = some v5) ∧ RowAt w v3 f.length 1 (fltC f) ∧
      ∃ ev : Nat → Value, RowAt w v5 es.length 1 (fun i _ => ev i) ∧ ∀ i, i < es.length → RowAt w (ev i) (es.getD i []).length 1 (intC (es.getD i [])) := by
  cases h with
  | pt _ _ _ _ _ _ _ b v3 hk' hb h3 => omega
  | rg _ _ _ _ _ _ _ b v3 v4 hk' hb h3 h4 => omega
  | mp _ _ _ _ _ _ b v3 v5 ev hb h3 h5 h6 =>
    have hlt := (Array.getElem?_eq_some_iff.1 hb).1
    exact ⟨b, v3, v5, rfl, hlt, fun w' hw => ⟨(hw.cell (p := ⟨b, 0, none⟩) hlt).trans (Lib.cell_of_heap hb 0), (hw.cell (p := ⟨b, 2, none⟩) hlt).trans (Lib.cell_of_heap hb 2), (hw.cell (p := ⟨b, 4, none⟩) hlt).trans (Lib.cell_of_heap hb 4)⟩, h3, ev, h5, h6⟩

/-- The name and the letters of the layout, as the code joins them. -/
theorem header2 (w0 : World) (b : Nat) (s n t : List UInt8) (w : World) (h : Bld w0 b s w) (hlen : s.length + (n ++ t).length ≤ 140737488355328) :
    Calls Tryz.prog 50 #[.pointer (some ⟨b, 0, none⟩), .string ((⟨n.toArray⟩ : ByteArray) ++ ⟨t.toArray⟩)] w (BWr w0 b (s ++ (n ++ t))) := by
  have e : ((⟨n.toArray⟩ : ByteArray) ++ ⟨t.toArray⟩) = ⟨(n ++ t).toArray⟩ := by
    apply ByteArray.ext
    simp
  rw [e]
  exact writeString50 w0 b s (n ++ t) w h hlen
theorem stride55at (l : Int) (st : Nat) (h0 : 0 ≤ l) (h1 : l ≤ 9) (hs : strideF l = st) (w : World) : Calls Tryz.prog 55 #[.int .i64 l] w (Same (.int .i64 st) w) := by
  rw [← hs]
  exact stride55 l h0 h1 w

/-- A geometry of a kind and a layout is written as its text. -/
def WriteS (k l : Int) : Prop := ∀ (w0 : World) (eb b : Nat) (d : Int) (s0 : Int) (f : List Nat) (e : List Int) (es : List (List Int)) (kids : List G) (v : Value) (s : List UInt8) (w : World), Enc w0 eb d → TAt w0 v (.mk k l s0 f e es kids) → (∀ x ∈ f, x < 18446744073709551616) →
  LeafP k (strideF l).toNat f e es → f.length ≤ 2097152 → Bld w0 b s w → s.length + (wktT d (.mk k l s0 f e es kids)).length ≤ 140737488355328 →
  Calls Tryz.prog 22 #[.pointer (some ⟨eb, 0, none⟩), .pointer (some ⟨b, 0, none⟩), v] w (EWr w0 b (s ++ wktT d (.mk k l s0 f e es kids)))
end Go.Proofs.YtokmamakmaojpaaGreatDoor

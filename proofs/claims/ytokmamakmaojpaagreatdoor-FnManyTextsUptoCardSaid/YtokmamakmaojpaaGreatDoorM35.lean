/-
  K4. The specification: Parts.
  K5. The specification: the body of points and lines.
-/
import Derived.Test.YtokmamakmaojpaaGreatDoorM34
set_option linter.unusedVariables false
set_option linter.unusedSimpArgs false
set_option linter.unnecessarySimpa false
/- K4. -/
namespace Go.Proofs.YtokmamakmaojpaaGreatDoor
open Go.RowKit

theorem info28 : (Tryz.prog.info? 28).map (fun i => (i.zero, i.size, i.bytes)) = some (some (.agg #[.int .i64 0, .int .i64 0, .int .i64 0, .slice none 0 0, .slice none 0 0, .slice none 0 0, .slice none 0 0]), 7, 120) := by kernel_rfl
def midB (B C : Nat) : Nat → Bool := fun k => decide (B ≤ k) && decide (k < C)
/-- What a call of Part leaves, for Parts. -/
def PartAny (B : Nat) (p : G) (w : World) (e : Ending) (w' : World) : Prop := ∃ c', e = .returned (.agg #[c' 0, c' 1, c' 2, c' 3, c' 4, c' 5, c' 6]) ∧ GAt (hole (midB B w.heap.size) w') c' p ∧ Below w.heap.size w w'
theorem PartNew.any {p : G} {w : World} {e : Ending} {w' : World} (h : PartNew p w e w') (B : Nat) : PartAny B p w e w' := by
  obtain ⟨c', h1, h2, h3⟩ := h
  refine ⟨c', h1, h2.mono (Sub.hole fun k o hk hX => ⟨?_, hk⟩), h3⟩
  have := oldB_inv hX
  unfold midB
  simp
  omega
theorem PartOld.any {w0 : World} {p : G} {w : World} {e : Ending} {w' : World} (h : PartOld w0 p w e w') (hB : Below w0.heap.size w0 w) : PartAny w0.heap.size p w e w' := by
  obtain ⟨c', h1, h2, h3⟩ := h
  refine ⟨c', h1, h2.mono fun k cs T fz hk _ => ?_, h3⟩
  have hlt := lt_of_get hk
  have h4 := hB.trans (h3.mono hB.size)
  refine hole_keep ((h4.block k hlt).trans hk) ?_
  unfold midB
  simp
  omega
def ownX (v : Value) : Nat → Bool := fun k => decide (v.ownBlock = some k)
/-- The cells of several geometries. -/
def rows7 (cv : Nat → Nat → Value) : Nat → List Value
  | 0 => []
  | i + 1 => rows7 cv i ++ [cv i 0, cv i 1, cv i 2, cv i 3, cv i 4, cv i 5, cv i 6]
theorem rows7_length (cv : Nat → Nat → Value) : ∀ i, (rows7 cv i).length = i * 7
  | 0 => rfl
  | i + 1 => by rw [rows7, List.length_append, rows7_length cv i]; simp; omega
theorem rows7_congr {cv cv' : Nat → Nat → Value} : ∀ i, (∀ j, j < i → cv j = cv' j) → rows7 cv i = rows7 cv' i
  | 0, _ => rfl
  | i + 1, h => by rw [rows7, rows7, rows7_congr i (fun j hj => h j (by omega)), h i (by omega)]
theorem rows7_at (cv : Nat → Nat → Value) : ∀ i j t, j < i → t < 7 → (rows7 cv i)[j * 7 + t]? = some (cv j t)
  | 0, j, t, h, _ => absurd h (by omega)
  | i + 1, j, t, h, ht => by
    rw [rows7]
    by_cases hj : j < i
    · rw [List.getElem?_append_left (by rw [rows7_length]; omega)]
      exact rows7_at cv i j t hj ht
    · obtain rfl : j = i := by omega
      rw [List.getElem?_append_right (by rw [rows7_length]; omega), rows7_length, Nat.add_sub_cancel_left]
      match t, ht with
      | 0, _ => rfl
      | 1, _ => rfl
      | 2, _ => rfl
      | 3, _ => rfl
      | 4, _ => rfl
      | 5, _ => rfl
      | 6, _ => rfl
theorem ownBlock_lt' {w : World} {B : Nat} {e : TypeId} {sz : Nat} {v : Value} {n : Nat} {xs : List Value} (h : w.ownsRow B e sz v n xs) {g : Nat} (hg : v.ownBlock = some g) : B ≤ g ∧ g < w.heap.size := by
  rcases h.2 with ⟨rfl, _⟩ | ⟨g', cap, cur, rfl, h1, h2, _⟩
  · simp [Value.ownBlock] at hg
  · simp [Value.ownBlock] at hg
    subst hg
    exact ⟨h1, lt_of_get h2⟩
theorem RowAt.of_own7 {w : World} {B : Nat} {e : TypeId} {v : Value} {n : Nat} {cv : Nat → Nat → Value} (h : w.ownsRow B e 7 v n (rows7 cv n)) : RowAt w v n 7 cv := by
  rcases h.2 with ⟨rfl, rfl⟩ | ⟨g, cap, cur, rfl, hb, hg, hc, hm, hcs, ht⟩
  · exact RowAt.nil w 7 cv
  · refine ⟨_, cap, rfl, hc, hm, fun hn => ⟨g, 0, rfl, lt_of_get hg, fun i j hi hj => ?_⟩⟩
    rw [Nat.zero_add, Lib.cell_of_heap hg]
    have h1 := rows7_at cv n i j hi hj
    rw [← ht, List.getElem?_take] at h1
    split at h1
    · simpa using h1
    · exact absurd h1 (by simp)
/-- The state of Parts at a round's head. -/
structure PartsI (w : World) (box : Obj) (ps : Nat → G) (i : Nat) (wr : World) (gv : Value) (cv : Nat → Nat → Value) : Prop where
  below : Below w.heap.size w wr
  box : wr.heap[w.heap.size]? = some box
  own : wr.ownsRow (w.heap.size + 1) 28 7 gv i (rows7 cv i)
  parts : ∀ j, j < i → GAt (hole (ownX gv) wr) (cv j) (ps j)
theorem ownX_no {v : Value} {k : Nat} (h : v.ownBlock ≠ some k) : ownX v k = false := decide_eq_false h
theorem ownX_inv {v : Value} {k : Nat} (h : ownX v k = false) : v.ownBlock ≠ some k := of_decide_eq_false h
theorem PartsI.still {w : World} {box : Obj} {ps : Nat → G} {i : Nat} {wr w' : World} {gv : Value} {cv : Nat → Nat → Value} (h : PartsI w box ps i wr gv cv) (hb : Below wr.heap.size wr w') : PartsI w box ps i w' gv cv :=
  ⟨h.below.trans (hb.mono h.below.size), (hb.block _ (lt_of_get h.box)).trans h.box, ownsRow_block h.own fun g hg => hb.block g (ownBlock_lt' h.own hg).2,
    fun j hj => (h.parts j hj).mono (Sub.hole fun k o hk hX => ⟨hX, (hb.block k (lt_of_get hk)).trans hk⟩)⟩
theorem PartsI.push {w : World} {box : Obj} {ps : Nat → G} {i : Nat} {w1 w2 : World} {gv v : Value} {cv cv' : Nat → Nat → Value} (h : PartsI w box ps i w1 gv cv) (hown : w2.ownsRow (w.heap.size + 1) 28 7 v (i + 1) (rows7 cv' (i + 1))) (hgr : w1.grownBy w2 gv.ownBlock)
    (hat : v.ownBlock = gv.ownBlock ∨ v.ownBlock = some w1.heap.size) (hcv : ∀ j, j < i → cv' j = cv j) (hp : GAt (hole (ownX gv) w1) (cv' i) (ps i)) : PartsI w box ps (i + 1) w2 v cv' := by
  have hob : ∀ k, k < w.heap.size + 1 → some k ≠ gv.ownBlock := fun k hk e => by
    have := (ownBlock_lt' h.own e.symm).1
    omega
  have hsub : Sub (hole (ownX gv) w1) (hole (ownX v) w2) := Sub.hole fun k o hk hX => by
    have h1 := ownX_inv hX
    have h2 := lt_of_get hk
    refine ⟨ownX_no ?_, (hgr.block k h2 (fun e => h1 e.symm)).trans hk⟩
    rcases hat with e | e
    · rw [e]
      exact h1
    · rw [e]
      intro e'
      injection e' with e'
      omega
  refine ⟨h.below.grown hgr h.below.size (fun k hk => by have := (ownBlock_lt' h.own hk).1; omega), (hgr.block _ (lt_of_get h.box) (hob _ (by omega))).trans h.box, hown, fun j hj => ?_⟩
  by_cases h3 : j < i
  · rw [hcv j h3]
    exact (h.parts j h3).mono hsub
  · obtain rfl : j = i := by omega
    exact hp.mono hsub
/-- What Parts leaves. -/
def PartsRet (ps : List G) (w : World) (e : Ending) (w' : World) : Prop := ∃ v, e = .returned v ∧ AllAt w' v ps ∧ Below w.heap.size w w'
set_option maxRecDepth 100000 in
set_option maxHeartbeats 4000000 in
theorem parts47 (k l s : Int) (hk8 : k = 1 ∨ k = 2 ∨ k = 3 ∨ k = 4 ∨ k = 5 ∨ k = 6 ∨ k = 7 ∨ k = 8) (A3 A4 A5 A6 : Option Addr) (n3 n4 n5 n6 c3 c4 c5 c6 : Nat) (w : World) (ps : List G) (hn : numP k n4 n5 n6 = ps.length) (hn9 : ps.length ≤ 2097152)
    (hp : ∀ i (hi : i < ps.length), ∀ w', Below w.heap.size w w' → Calls Tryz.prog 72 #[.agg #[.int .i64 k, .int .i64 l, .int .i64 s, .slice A3 n3 c3, .slice A4 n4 c4, .slice A5 n5 c5, .slice A6 n6 c6], .int .i64 i] w' (PartAny w.heap.size ps[i] w')) :
    Calls Tryz.prog 47 #[.agg #[.int .i64 k, .int .i64 l, .int .i64 s, .slice A3 n3 c3, .slice A4 n4 c4, .slice A5 n5 c5, .slice A6 n6 c6]] w (PartsRet ps w) := by
  obtain ⟨i0, hi0, hz0, hz1, hz2⟩ := info_parts info28
  have hnp := fun w => numParts71 k l s hk8 A3 A4 A5 A6 n3 n4 n5 n6 c3 c4 c5 c6 w
  obtain ⟨n, hnn⟩ : ∃ n, ps.length = n := ⟨_, rfl⟩
  simp only [hn, hnn] at hnp
  rw [hnn] at hn9
  have HNP := Lib.hid hnp
  have HP := Lib.hid hp
  have HN := Lib.hid hnn
  clear hnp hp hnn hn
  go_enter Tryz.func47, Tryz.ntmps47
  go_wp2_with (go_at_call 71; refine (HNP.out _).mono ?_; rintro e1 w1 ⟨rfl, hB1⟩; have HB1 := Lib.hid hB1; clear hB1)
  have hI0 : PartsI w (.cells #[.int .i64 k, .int .i64 l, .int .i64 s, .slice A3 n3 c3, .slice A4 n4 c4, .slice A5 n5 c5, .slice A6 n6 c6] 28) (fun j => ps.getD j default) 0 w1 (.slice none 0 0) (fun _ _ => undef) := by
    have hb := (Below.refl w.heap.size w).alloc (Nat.le_refl _) (.cells #[Value.int .i64 k, .int .i64 l, .int .i64 s, .slice A3 n3 c3, .slice A4 n4 c4, .slice A5 n5 c5, .slice A6 n6 c6] 28)
    exact ⟨hb.trans (HB1.out.mono hb.size), (HB1.out.block _ (by simp)).trans (heap_alloc_new w _), ⟨rfl, Or.inl ⟨rfl, rfl⟩⟩, fun j hj => absurd hj (by omega)⟩
  have HI0 := Lib.hid hI0
  clear hI0
  go_loopg [3, 7] n (fun gk v3 vc wr => ∃ i : Nat, i + gk = n ∧ vc = .int .i64 i ∧ ∃ cv, Hid (PartsI w (.cells #[.int .i64 k, .int .i64 l, .int .i64 s, .slice A3 n3 c3, .slice A4 n4 c4, .slice A5 n5 c5, .slice A6 n6 c6] 28) (fun j => ps.getD j default) i wr v3 cv))
  case atStart => exact ⟨0, by omega, rfl, _, HI0⟩
  case round =>
    obtain ⟨i, hi, rfl, cv, HI⟩ := hrel
    obtain ⟨gA, gc, hgv⟩ := own_form HI.out.own
    subst hgv
    by_cases hlt : i < n
    · have HII := Lib.hid hi
      have hil : i < ps.length := by rw [HN.out]; exact hlt
      have hcall := HP.out i hil wr HI.out.below
      obtain ⟨p, hp⟩ : ∃ p, ps[i] = p := ⟨_, rfl⟩
      rw [hp] at hcall
      have HPE : Hid (ps.getD i default = p) := Lib.hid (by rw [List.getD_eq_getElem?_getD, List.getElem?_eq_getElem hil]; exact hp)
      have HC := Lib.hid hcall
      obtain ⟨g0, g1, g2, g3, g4, g5, g6, _⟩ := seven_cells HI.out.box
      clear hi hcall hp
      go_wp2_with (fail)
      refine HC.out.mono ?_
      rintro e2 w2 ⟨c', rfl, hgp, hB2⟩
      obtain ⟨k', l', s', A3', m3, d3, A4', m4, d4, A5', m5, d5, A6', m6, d6, f0, f1, f2, f3, f4, f5, f6⟩ := hgp.cells
      have hI2 := HI.out.still hB2
      have hgp2 : GAt (hole (ownX (Value.slice gA i gc)) w2) c' p := hgp.mono (Sub.hole fun k o hk hX => ⟨ownX_no fun e => by
        have h1 := ownBlock_lt' HI.out.own e
        unfold midB at hX
        simp at hX
        omega, hk⟩)
      rw [f0, f1, f2, f3, f4, f5, f6]
      have HCF := Lib.hid (And.intro f0 (And.intro f1 (And.intro f2 (And.intro f3 (And.intro f4 (And.intro f5 f6))))))
      have hal : Below w2.heap.size w2 (w2.alloc (.cells #[.int .i64 k', .int .i64 l', .int .i64 s', .slice A3' m3 d3, .slice A4' m4 d4, .slice A5' m5 d5, .slice A6' m6 d6] 28)) := (Below.refl _ w2).alloc (Nat.le_refl _) _
      have HI3 := Lib.hid (hI2.still hal)
      have HGP : Hid (GAt (hole (ownX (Value.slice gA i gc)) (w2.alloc (.cells #[.int .i64 k', .int .i64 l', .int .i64 s', .slice A3' m3 d3, .slice A4' m4 d4, .slice A5' m5 d5, .slice A6' m6 d6] 28))) c' p) := Lib.hid (hgp2.mono (Sub.hole fun k o hk hX => ⟨hX, (hal.block k (lt_of_get hk)).trans hk⟩))
      have HNW : Hid (∀ j u, [Value.int .i64 k', .int .i64 l', .int .i64 s', .slice A3' m3 d3, .slice A4' m4 d4, .slice A5' m5 d5, .slice A6' m6 d6][j]? = some u → (w2.alloc (.cells #[.int .i64 k', .int .i64 l', .int .i64 s', .slice A3' m3 d3, .slice A4' m4 d4, .slice A5' m5 d5, .slice A6' m6 d6] 28)).cell? ((⟨w2.heap.size, 0, none⟩ : Addr).add j) = some u) := Lib.hid fun j u hj => by
        have h1 := Lib.cell_of_heap (heap_alloc_new w2 (.cells #[Value.int .i64 k', .int .i64 l', .int .i64 s', .slice A3' m3 d3, .slice A4' m4 d4, .slice A5' m5 d5, .slice A6' m6 d6] 28)) j
        rw [List.getElem?_toArray, hj] at h1
        simp only [Addr.add]
        split
        · rename_i h0
          subst h0
          exact h1
        · rw [Nat.zero_add]
          exact h1
      clear hgp hB2 f0 f1 f2 f3 f4 f5 f6 hI2 hgp2 hal
      go_wp2_with (at_builtin; refine wpList_append_own_at _ rfl _ _ 22 rfl (w.heap.size + 1) 28 i0 _ 7 120 Tryz.underlying22 hi0 hz0 hz1 hz2 rfl (by decide) _ i (rows7 cv i) rfl HI3.out.own ⟨w2.heap.size, 0, none⟩ 1 1 [Value.int .i64 k', .int .i64 l', .int .i64 s', .slice A3' m3 d3, .slice A4' m4 d4, .slice A5' m5 d5, .slice A6' m6 d6] rfl rfl HNW.out (by intro u hu; simp at hu; rcases hu with rfl | rfl | rfl | rfl | rfl | rfl | rfl <;> rfl) (by unfold maxLen; omega) (by omega) (lt_of_get HI3.out.box) ?_)
      intro v7 w7 hown7 hgrow7 _ hat7
      obtain ⟨f0, f1, f2, f3, f4, f5, f6⟩ := HCF.out
      have e1 : rows7 (fun j => if j = i then c' else cv j) (i + 1) = rows7 cv i ++ [Value.int .i64 k', .int .i64 l', .int .i64 s', .slice A3' m3 d3, .slice A4' m4 d4, .slice A5' m5 d5, .slice A6' m6 d6] := by
        rw [rows7, rows7_congr (cv' := cv) i (fun j hj => if_neg (by omega))]
        simp only [if_true, f0, f1, f2, f3, f4, f5, f6]
      rw [← e1] at hown7
      have hM := HI3.out.push hown7 hgrow7 (by rw [size_alloc]; exact hat7) (fun j hj => if_neg (by omega)) (by simp only [if_true]; rw [HPE.out]; exact HGP.out)
      have HM := Lib.hid hM
      clear hown7 hgrow7 hat7 e1 hM f0 f1 f2 f3 f4 f5 f6
      go_wp2_with (fail)
      go_roundg (n - (i + 1))
      case measure => have := HII.out; omega
      case rel => exact ⟨i + 1, by omega, by go_num, _, HM⟩
    · have ei : i = n := by omega
      subst ei
      clear hi
      go_wp2_with (fail)
      go_ret
      refine ⟨_, rfl, ⟨cv, ?_, fun j hj => ?_⟩, HI.out.below⟩
      · rw [HN.out]
        exact RowAt.of_own7 HI.out.own
      · have h1 := HI.out.parts j (by rw [← HN.out]; exact hj)
        rw [List.getD_eq_getElem?_getD, List.getElem?_eq_getElem hj] at h1
        exact h1.mono (Sub.unhole _ _)
end Go.Proofs.YtokmamakmaojpaaGreatDoor

/- K5. -/
namespace Go.Proofs.YtokmamakmaojpaaGreatDoor
open Go.RowKit
attribute [local go_sem] no_yield

set_option maxRecDepth 100000 in
set_option maxHeartbeats 4000000 in
theorem body16_line (k l s : Int) (hk : k = 1 ∨ k = 2 ∨ k = 8) (f : List Nat) (e : List Int) (es : List (List Int)) (c : Nat → Value) (w : World) (hg : GAt w c (.mk k l s f e es [])) (st : Nat) (d : Int) (top : Bool) (hs0 : 1 ≤ st) (hs1 : st ≤ 9) (h0 : -1 ≤ d) (h1 : d ≤ 20) (hf : f.length ≤ 2097152) (hT : Tabs w) :
    Calls Tryz.prog 16 #[.agg #[c 0, c 1, c 2, c 3, c 4, c 5, c 6], .int .i64 st, .int .i64 d, .bool top] w (Ret2 (.string ⟨(placesT st d f).toArray⟩) (.bool true) w) := by
  obtain ⟨A3, A4, A5, A6, c3, c4, c5, c6, e0, e1, e2, e3, e4, e5, e6, ho⟩ := hg.open_
  rw [e0, e1, e2, e3, e4, e5, e6]
  have hpl := fun w' hb => places48 st d h0 h1 hs0 hs1 f ho.rng.flat hf (.slice A3 f.length c3) w' (hT.below hb) (ho.flat.below (Nat.le_refl _) hb)
  have hk8 : k = 1 ∨ k = 2 ∨ k = 3 ∨ k = 4 ∨ k = 5 ∨ k = 6 ∨ k = 7 ∨ k = 8 := by omega
  have hpa := fun w' => parts47 k l s hk8 A3 A4 A5 A6 f.length e.length es.length 0 c3 c4 c5 c6 w' [] (by unfold numP; rw [if_neg (by omega), if_neg (by omega)]; rfl) (by simp) (fun i hi => absurd hi (by simp))
  obtain ⟨ne, hne⟩ : ∃ ne, e.length = ne := ⟨_, rfl⟩
  obtain ⟨nes, hnes⟩ : ∃ nes, es.length = nes := ⟨_, rfl⟩
  obtain ⟨nf, hnf⟩ : ∃ nf, f.length = nf := ⟨_, rfl⟩
  obtain ⟨t, ht⟩ : ∃ t, placesT st d f = t := ⟨_, rfl⟩
  simp only [hne, hnes, hnf, ht] at hpl hpa
  rw [hne, hnes, hnf, ht, show ([] : List G).length = 0 from rfl]
  have HPL := Lib.hid hpl
  have HPA := Lib.hid hpa
  clear e0 e1 e2 e3 e4 e5 e6 hg ho hpl hpa hne hnes hnf ht hT hk8
  rcases hk with rfl | rfl | rfl
  all_goals
    go_enter Tryz.func16, Tryz.ntmps16
    go_wp2_with (go_at_call 47; refine (HPA.out _).mono ?_; rintro e1 w1 ⟨v1, rfl, hv1, hB1⟩; obtain ⟨g0, g1, g2, g3, g4, g5, g6⟩ := box_cells hB1; have HB1 := Lib.hid hB1; clear hB1 hv1)
    have hB : Below w.heap.size w w1 := ((Below.refl _ w).alloc (Nat.le_refl _) _).trans (HB1.out.mono (by simp))
    have HPL1 := Lib.hid (HPL.out w1 hB)
    have HB := Lib.hid hB
    clear hB
    refine HPL1.out.mono ?_
    rintro e2 w2 ⟨rfl, hB2⟩
    have HB2 := Lib.hid hB2
    clear hB2
    go_wp2_with (fail)
    go_ret2
    exact ⟨rfl, HB.out.trans (HB2.out.mono HB.out.size)⟩
theorem joinT_length_le {f : Nat → List UInt8} {n : Nat} : ∀ {i : Nat}, i ≤ n → (joinT f i).length ≤ (joinT f n).length := by
  induction n with
  | zero =>
    intro i hi
    obtain rfl : i = 0 := by omega
    exact Nat.le_refl _
  | succ n ih =>
    intro i hi
    by_cases h : i = n + 1
    · rw [h]
      exact Nat.le_refl _
    · have := ih (i := i) (by omega)
      show _ ≤ (joinT f n ++ _ ++ f n).length
      rw [List.length_append, List.length_append]
      omega
/-- What a body leaves. -/
def BodyRet (t : List UInt8) (w : World) (e : Ending) (w' : World) : Prop := Ret2 (.string ⟨t.toArray⟩) (.bool true) w e w'
end Go.Proofs.YtokmamakmaojpaaGreatDoor

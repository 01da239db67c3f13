/-
  The specification: the parts of polygons' collections.
-/
import Derived.Test.YtokmamakmaojpaaGreatDoorM33
import Derived.IntWalk
set_option linter.unusedVariables false
set_option linter.unusedSimpArgs false
set_option linter.unnecessarySimpa false
namespace Go.Proofs.YtokmamakmaojpaaGreatDoor
open Go.RowKit

theorem run_append_none (A : Addr) (c' : Nat) (w : World) : (Builtin.append_ #[24, 24] 24 #[.slice (some A) 0 0, .slice none 0 c']).run Tryz.prog w = .ok (.slice (some A) 0 0) w := by
  go_simp
theorem wpList_append_none {ops : Array Oper} {rest : List Oper} {o : Oper} {a : Act} {w : World} {Q : Exit → Act → World → Prop} (hgd : o.guard = none) (s x : Operand) (hty : o.type = 24)
    (ho : o.op = .call { callee := .builtin .append, args := #[s, x], argTypes := #[24, 24] }) (A : Addr) (c' : Nat) (hs : a.eval s = .slice (some A) 0 0) (hx : a.eval x = .slice none 0 c')
    (h : ∀ w', w' = w → wpList Tryz.prog ops Q rest (a.put o.dst (.slice (some A) 0 0)) w') : wpList Tryz.prog ops Q (o :: rest) a w := by
  refine wpList_plain hgd fun K hK => ?_
  unfold Oper.wp execOp
  simp only [ho, resolve, invoke, builtin, Sem.run_bind, Sem.run_pure, Result.andThen_ok, List.map_toArray, List.map_cons, List.map_nil, hs, hx, hty, run_append_none]
  exact hK _ _ (h _ rfl)
/-- Where the numbers of a row of ends end. -/
def endOf (start : Nat) (e : List Int) : Nat := prevE start e e.length
def shiftE (start : Nat) (e : List Int) : List Int := e.map fun x => x - start
def shiftC (a : Nat) (e : List Int) (j : Nat) : List Value := (List.range j).map fun t => .int .i64 (e.getD t 0 - a)
theorem shiftC_length (a : Nat) (e : List Int) (j : Nat) : (shiftC a e j).length = j := by simp [shiftC]
theorem shiftC_succ (a : Nat) (e : List Int) (j : Nat) : shiftC a e (j + 1) = shiftC a e j ++ [.int .i64 (e.getD j 0 - a)] := by simp [shiftC, List.range_succ]
theorem shiftC_at (a : Nat) (e : List Int) (j i : Nat) (h : i < j) : (shiftC a e j)[i]? = some (.int .i64 (e.getD i 0 - a)) := by
  unfold shiftC
  rw [List.getElem?_map, List.getElem?_range h]
  rfl
/-- The state of Part at a polygon's ends. -/
structure KidI (B : Nat) (w : World) (box : Obj) (l : Int) (a : Nat) (e : List Int) (j : Nat) (wr : World) (gv : Value) : Prop where
  hB : w.heap.size + 2 ≤ B
  below : Below w.heap.size w wr
  k0 : wr.heap[w.heap.size]? = some box
  k1 : wr.heap[w.heap.size + 1]? = some (.cells #[Value.int .i64 0, .int .i64 0, .int .i64 0, .slice none 0 0, .slice none 0 0, .slice none 0 0, .slice none 0 0] 28 (0, 0))
  kid : wr.heap[B]? = some (.cells #[Value.int .i64 3, .int .i64 l, .int .i64 0, .slice none 0 0, gv, .slice none 0 0, .slice none 0 0] 28 (0, 0))
  own : wr.ownsRow (B + 1) 3 1 gv j (shiftC a e j)
theorem KidI.still {B : Nat} {w : World} {box : Obj} {l : Int} {a : Nat} {e : List Int} {j : Nat} {wr w' : World} {gv : Value} (h : KidI B w box l a e j wr gv) (hb : Below wr.heap.size wr w') : KidI B w box l a e j w' gv :=
  ⟨h.hB, h.below.trans (hb.mono h.below.size), (hb.block _ (lt_of_get h.k0)).trans h.k0, (hb.block _ (lt_of_get h.k1)).trans h.k1, (hb.block _ (lt_of_get h.kid)).trans h.kid, ownsRow_still h.own hb⟩
theorem KidI.push {B : Nat} {w : World} {box : Obj} {l : Int} {a : Nat} {e : List Int} {j : Nat} {wr w2 : World} {gv v : Value} (h : KidI B w box l a e j wr gv) (hown : w2.ownsRow (B + 1) 3 1 v (j + 1) (shiftC a e (j + 1))) (hgr : wr.grownBy w2 gv.ownBlock) :
    KidI B w box l a e (j + 1) (w2.setCell ⟨B, 4, none⟩ v) v ∧ w2.cell? ⟨B, 4, none⟩ = some gv ∧ w2.frozen? ⟨B, 4, none⟩ = false := by
  have hb := h.hB
  have hob : ∀ k, k < B + 1 → some k ≠ gv.ownBlock := fun k hk e => by
    have := (ownBlock_lt h.own e.symm).1
    omega
  have hb0 := (hgr.block _ (lt_of_get h.k0) (hob _ (by omega))).trans h.k0
  have hb1 := (hgr.block _ (lt_of_get h.k1) (hob _ (by omega))).trans h.k1
  have hb2 := (hgr.block _ (lt_of_get h.kid) (hob _ (by omega))).trans h.kid
  have hoth : ∀ k, k ≠ B → (w2.setCell ⟨B, 4, none⟩ v).heap[k]? = w2.heap[k]? := fun k hk => Below.heap_setCell _ _ _ _ (fun e => hk (by simp [e]))
  refine ⟨⟨h.hB, ?_, (hoth _ (by omega)).trans hb0, (hoth _ (by omega)).trans hb1, ?_, ?_⟩, Lib.cell_of_heap hb2 4, Lib.frozen_of_heap hb2 4⟩
  · exact ((h.below.grown hgr h.below.size (fun k hk => by have := (ownBlock_lt h.own hk).1; omega))).setCell (p := ⟨B, 4, none⟩) (by show _ ≤ B; omega) _
  · rw [World.setCell]
    simp only [Array.getElem?_modify, if_pos]
    rw [hb2]
    rfl
  · exact ownsRow_block hown fun g hg => hoth g (by have := (ownBlock_lt hown hg).1; omega)
theorem prevE_at {st L a : Nat} {e : List Int} (h : EOk st L a e) (ha : a ≤ L) : ∀ j, j ≤ e.length → a ≤ prevE a e j ∧ prevE a e j ≤ L
  | 0, _ => ⟨Nat.le_refl _, ha⟩
  | j + 1, hj => by
    have ih := prevE_at h ha j (by omega)
    obtain ⟨h1, h2, h3, _⟩ := h j (by omega)
    rw [prevE_succ]
    omega
theorem own_form {w : World} {B : Nat} {e : TypeId} {sz : Nat} {v : Value} {n : Nat} {xs : List Value} (h : w.ownsRow B e sz v n xs) : ∃ A c, v = .slice A n c := by
  rcases h.2 with ⟨hv, h0⟩ | ⟨g, cap, cur, hv, _⟩
  · exact ⟨none, 0, by rw [hv, h0]⟩
  · exact ⟨_, _, hv⟩
theorem shiftE_length (a : Nat) (e : List Int) : (shiftE a e).length = e.length := by simp [shiftE]
theorem part6_end {B : Nat} {w : World} {box : Obj} {l : Int} {a z m ni : Nat} {e : List Int} {f : List Nat} {w9 : World} {gA A9 : Option Addr} {gc k9 F st L : Nat} (hI : KidI B w box l a e ni w9 (.slice gA ni gc)) (hne : e.length = ni) (hf : w9.ownsRow F 146 1 (.slice A9 m k9) m (segC f a m)) (hF : B + 1 ≤ F)
    (hm : z - a = m) (haz : a ≤ z) (hzf : z ≤ f.length) (hrf : ∀ x ∈ f, x < 18446744073709551616) (hrl : RngI l) (hk : EOk st L a e) (haL : a ≤ L) (hL : L ≤ 2097152) :
    (w9.setCell ⟨B, 3, none⟩ (.slice A9 m k9)).heap[B]? = some (.cells #[Value.int .i64 3, .int .i64 l, .int .i64 0, .slice A9 m k9, .slice gA ni gc, .slice none 0 0, .slice none 0 0] 28 (0, 0)) ∧
    (w9.setCell ⟨B, 3, none⟩ (.slice A9 m k9)).heap[w.heap.size + 1]? = some (.cells #[Value.int .i64 0, .int .i64 0, .int .i64 0, .slice none 0 0, .slice none 0 0, .slice none 0 0, .slice none 0 0] 28 (0, 0)) ∧
    (((((((((w9.setCell ⟨B, 3, none⟩ (.slice A9 m k9)).setCell ⟨w.heap.size + 1, 0, none⟩ (.int .i64 3)).setCell ⟨w.heap.size + 1, 1, none⟩ (.int .i64 l)).setCell ⟨w.heap.size + 1, 2, none⟩ (.int .i64 0)).setCell ⟨w.heap.size + 1, 3, none⟩ (.slice A9 m k9)).setCell ⟨w.heap.size + 1, 4, none⟩ (.slice gA ni gc)).setCell ⟨w.heap.size + 1, 5, none⟩ (.slice none 0 0)).setCell ⟨w.heap.size + 1, 6, none⟩ (.slice none 0 0)).heap[w.heap.size + 1]? = some (.cells #[Value.int .i64 3, .int .i64 l, .int .i64 0, .slice A9 m k9, .slice gA ni gc, .slice none 0 0, .slice none 0 0] 28 (0, 0))) ∧
    PartNew (.mk 3 l 0 (seg f a z) (shiftE a e) [] []) w (.returned (.agg #[.int .i64 3, .int .i64 l, .int .i64 0, .slice A9 m k9, .slice gA ni gc, .slice none 0 0, .slice none 0 0]))
      ((((((((w9.setCell ⟨B, 3, none⟩ (.slice A9 m k9)).setCell ⟨w.heap.size + 1, 0, none⟩ (.int .i64 3)).setCell ⟨w.heap.size + 1, 1, none⟩ (.int .i64 l)).setCell ⟨w.heap.size + 1, 2, none⟩ (.int .i64 0)).setCell ⟨w.heap.size + 1, 3, none⟩ (.slice A9 m k9)).setCell ⟨w.heap.size + 1, 4, none⟩ (.slice gA ni gc)).setCell ⟨w.heap.size + 1, 5, none⟩ (.slice none 0 0)).setCell ⟨w.heap.size + 1, 6, none⟩ (.slice none 0 0)) := by
  have hB := hI.hB
  have hoth : ∀ k, k ≠ B → (w9.setCell ⟨B, 3, none⟩ (.slice A9 m k9)).heap[k]? = w9.heap[k]? := fun k hk => Below.heap_setCell _ _ _ _ (fun e => hk (by simp [e]))
  have h1 := (hoth (w.heap.size + 1) (by omega)).trans hI.k1
  have h0 : (w9.setCell ⟨B, 3, none⟩ (.slice A9 m k9)).heap[B]? = some (.cells #[Value.int .i64 3, .int .i64 l, .int .i64 0, .slice A9 m k9, .slice gA ni gc, .slice none 0 0, .slice none 0 0] 28 (0, 0)) := by
    rw [World.setCell]
    simp only [Array.getElem?_modify, if_pos]
    rw [hI.kid]
    rfl
  obtain ⟨p1, p2, _⟩ := put7 h1 (.int .i64 3) (.int .i64 l) (.int .i64 0) (.slice A9 m k9) (.slice gA ni gc) (.slice none 0 0) (.slice none 0 0)
  have hBl := put7_below (hI.below.setCell (p := ⟨B, 3, none⟩) (by show _ ≤ B; omega) (.slice A9 m k9)) (b := w.heap.size + 1) (by omega) (.int .i64 3) (.int .i64 l) (.int .i64 0) (.slice A9 m k9) (.slice gA ni gc) (.slice none 0 0) (.slice none 0 0)
  refine ⟨h0, h1, p1, ?_⟩
  generalize (((((((w9.setCell ⟨B, 3, none⟩ (.slice A9 m k9)).setCell ⟨w.heap.size + 1, 0, none⟩ (.int .i64 3)).setCell ⟨w.heap.size + 1, 1, none⟩ (.int .i64 l)).setCell ⟨w.heap.size + 1, 2, none⟩ (.int .i64 0)).setCell ⟨w.heap.size + 1, 3, none⟩ (.slice A9 m k9)).setCell ⟨w.heap.size + 1, 4, none⟩ (.slice gA ni gc)).setCell ⟨w.heap.size + 1, 5, none⟩ (.slice none 0 0)).setCell ⟨w.heap.size + 1, 6, none⟩ (.slice none 0 0) = W at p1 p2 hBl ⊢
  have hf' : W.ownsRow F 146 1 (.slice A9 m k9) m (segC f a m) := ownsRow_block hf fun g hg => by
    have := (ownBlock_lt hf hg).1
    rw [p2 g (by omega), hoth g (by omega)]
  have he' : W.ownsRow (B + 1) 3 1 (.slice gA ni gc) ni (shiftC a e ni) := ownsRow_block hI.own fun g hg => by
    have := (ownBlock_lt hI.own hg).1
    rw [p2 g (by omega), hoth g (by omega)]
  have hseg : (seg f a z).length = m := (seg_length haz hzf).trans hm
  have hr : RowAt (hole (oldB w.heap.size) W) (.slice A9 m k9) (seg f a z).length 1 (fltC (seg f a z)) := by
    rw [hseg]
    refine (RowAt.of_own_new hf' fun i hi => ?_).mono (Sub.hole fun k o hk hX => ⟨oldB_no (by have := oldB_inv hX; omega), hk⟩) (by omega)
    rw [segC_at f a _ i hi, fltC, seg_getD (by omega)]
  have hse : ∀ i, i < e.length → (shiftE a e).getD i 0 = e.getD i 0 - a := fun i hi => by
    rw [shiftE, List.getD_eq_getElem?_getD, List.getElem?_map, List.getD_eq_getElem?_getD, List.getElem?_eq_getElem hi]
    rfl
  have hr4 : RowAt (hole (oldB w.heap.size) W) (.slice gA ni gc) (shiftE a e).length 1 (intC (shiftE a e)) := by
    rw [shiftE_length, hne]
    refine (RowAt.of_own_new he' fun i hi => ?_).mono (Sub.hole fun k o hk hX => ⟨oldB_no (by have := oldB_inv hX; omega), hk⟩) (by omega)
    rw [shiftC_at a e _ i hi, intC, hse i (by omega)]
  refine ⟨fun t => [.int .i64 3, .int .i64 l, .int .i64 0, .slice A9 m k9, .slice gA ni gc, .slice none 0 0, .slice none 0 0].getD t undef, rfl, ?_, hBl⟩
  refine .mk 3 l 0 (seg f a z) (shiftE a e) [] [] _ (fun _ => undef) (fun _ _ => undef) ⟨by unfold RngI; omega, hrl, by unfold RngI; omega, (fun x hx => hrf x (List.mem_of_mem_drop (List.mem_of_mem_take hx))), (fun x hx => ?_), (fun _ h => nomatch h)⟩ rfl rfl rfl hr hr4 (RowAt.nil _ _ _) (fun i hi => absurd hi (by simp)) (RowAt.nil _ _ _) (fun i hi => absurd hi (by simp))
  rw [shiftE, List.mem_map] at hx
  obtain ⟨y, hy, rfl⟩ := hx
  obtain ⟨t, ht, hyt⟩ := List.getElem_of_mem hy
  obtain ⟨q1, q2, q3, _⟩ := hk t ht
  rw [List.getD_eq_getElem?_getD, List.getElem?_eq_getElem ht] at q1 q2 q3
  simp only [Option.getD_some, hyt] at q1 q2 q3
  unfold RngI
  omega
set_option maxRecDepth 100000 in
set_option maxHeartbeats 4000000 in
theorem part_6 (l s : Int) (f : List Nat) (e : List Int) (es : List (List Int)) (kids : List G) (c : Nat → Value) (w : World) (hg : GAt w c (.mk 6 l s f e es kids)) (i : Nat) (hi : i < es.length) (st : Nat)
    (hsf : startOf es i ≤ f.length) (hk : EOk st f.length (startOf es i) (es.getD i [])) (hso : ∀ j, j < i → (es.getD j []).length ≠ 0 → 0 ≤ (es.getD j []).getD ((es.getD j []).length - 1) 0) (hf : f.length ≤ 2097152) (hen : es.length ≤ 2097152) (hei : ∀ j, j < es.length → (es.getD j []).length ≤ 2097152) :
    Calls Tryz.prog 72 #[.agg #[c 0, c 1, c 2, c 3, c 4, c 5, c 6], .int .i64 i] w (PartNew (.mk 3 l 0 (seg f (startOf es i) (endOf (startOf es i) (es.getD i []))) (shiftE (startOf es i) (es.getD i [])) [] []) w) := by
  obtain ⟨A3, A4, A5, A6, c3, c4, c5, c6, e0, e1, e2, e3, e4, e5, e6, ho⟩ := hg.open_
  rw [e0, e1, e2, e3, e4, e5, e6]
  obtain ⟨ev, hev, hrows⟩ := ho.endss
  have hflat := ho.flat
  have hrng := ho.rng
  obtain ⟨ne, hne⟩ : ∃ ne, e.length = ne := ⟨_, rfl⟩
  obtain ⟨nes, hnes⟩ : ∃ nes, es.length = nes := ⟨_, rfl⟩
  obtain ⟨nk, hnk⟩ : ∃ nk, kids.length = nk := ⟨_, rfl⟩
  obtain ⟨nf, hnf⟩ : ∃ nf, f.length = nf := ⟨_, rfl⟩
  obtain ⟨a, ha⟩ : ∃ a, startOf es i = a := ⟨_, rfl⟩
  obtain ⟨ei, hei'⟩ : ∃ ei, es.getD i [] = ei := ⟨_, rfl⟩
  have hein := hei i hi
  have hrowi := hrows i hi
  rw [ha, hei'] at hk ⊢
  rw [ha] at hsf
  rw [hei'] at hein hrowi
  rw [hne, hnes, hnk, hnf]
  rw [hnes] at hi hev hen hrows
  rw [hnf] at hf hflat hsf hk
  obtain ⟨b5, o5, rfl, hb5, q5⟩ := hev.one hi
  obtain ⟨hc5a, hc5b⟩ := hev.le
  obtain ⟨hc3a, hc3b⟩ := hflat.le
  obtain ⟨ni, hni⟩ : ∃ ni, ei.length = ni := ⟨_, rfl⟩
  obtain ⟨Ai, ci, hvi, hni0, hni1, _⟩ := id hrowi
  rw [hvi] at hrowi q5
  rw [hni] at hrowi q5 hni0 hein
  unfold maxLen at hni1
  have HEV := Lib.hid hev
  have HROWS := Lib.hid hrows
  have HRI := Lib.hid hrowi
  have HFL := Lib.hid hflat
  have HRNG := Lib.hid hrng
  have HK := Lib.hid hk
  have HNF := Lib.hid hnf
  have HNI := Lib.hid hni
  have HA := Lib.hid ha
  have HSO := Lib.hid hso
  have HEI := Lib.hid hei
  have HNES := Lib.hid hnes
  have z5 := fun x y => two_old w x y q5
  clear e0 e1 e2 e3 e4 e5 e6 hg ho hne hnk hnf hev hrows hrowi hflat hrng hk hni ha hei' hso hei hnes
  go_enter Tryz.func72, Tryz.ntmps72
  go_wp2_with (fail)
  obtain ⟨W0, hW0⟩ : ∃ W0, (w.alloc (Obj.cells #[Value.int IntKind.i64 6, Value.int IntKind.i64 l, Value.int IntKind.i64 s, Value.slice A3 nf c3, Value.slice A4 ne c4, Value.slice (some ⟨b5, o5, none⟩) nes c5, Value.slice A6 nk c6] 28)).alloc (Obj.cells #[Value.int IntKind.i64 0, Value.int IntKind.i64 0, Value.int IntKind.i64 0, Value.slice none 0 0, Value.slice none 0 0, Value.slice none 0 0, Value.slice none 0 0] 28) = W0 := ⟨_, rfl⟩
  rw [hW0]
  have hB0 : Below w.heap.size w W0 := by rw [← hW0]; exact ((Below.refl _ w).alloc (Nat.le_refl _) _).alloc (by simp) _
  have hm0 : W0.heap[w.heap.size]? = some (.cells #[Value.int .i64 6, .int .i64 l, .int .i64 s, .slice A3 nf c3, .slice A4 ne c4, .slice (some ⟨b5, o5, none⟩) nes c5, .slice A6 nk c6] 28 (0, 0)) := by rw [← hW0]; exact heap_alloc_old _ (heap_alloc_new w _)
  have hm1 : W0.heap[w.heap.size + 1]? = some (.cells #[Value.int .i64 0, .int .i64 0, .int .i64 0, .slice none 0 0, .slice none 0 0, .slice none 0 0, .slice none 0 0] 28 (0, 0)) := by rw [← hW0]; exact two_new w _ _
  have hsz : W0.heap.size = w.heap.size + 2 := by rw [← hW0, two_size]
  have HB0 := Lib.hid hB0
  have HM0 := Lib.hid hm0
  have HM1 := Lib.hid hm1
  have HSZ := Lib.hid hsz
  clear hW0 hB0 hm0 hm1 hsz z5
  go_loopg [5, 30] i (fun gk v5 vc wr => W0 = wr ∧ ∃ j : Nat, j + gk = i ∧ vc = .int .i64 j ∧ v5 = .int .i64 (startOf es j : Nat))
  case atStart => exact ⟨rfl, 0, by omega, rfl, rfl⟩
  case round =>
    obtain ⟨rfl, j, hj, rfl, rfl⟩ := hrel
    by_cases hlt : j < i
    · have HJ := Lib.hid hj
      have hjs : j < es.length := by rw [HNES.out]; omega
      obtain ⟨b5', o5', h5', _, hcell⟩ := (HEV.out.below (Nat.le_refl _) HB0.out).one (i := j) (by omega)
      injection h5' with h5'
      injection h5' with h5' h5''
      subst h5' h5''
      have hrow := (HROWS.out j (by omega)).below (Nat.le_refl _) HB0.out
      obtain ⟨ej, hej⟩ : ∃ ej, es.getD j [] = ej := ⟨_, rfl⟩
      have hstep : startOf es (j + 1) = if ej.length = 0 then startOf es j else (ej.getD (ej.length - 1) 0).toNat := by rw [← hej]; rfl
      have hlo := HSO.out j hlt
      have hlj := HEI.out j hjs
      rw [hej] at hrow hlo hlj
      obtain ⟨Aj, cj, hvj, hnj0, hnj1, _⟩ := id hrow
      unfold maxLen at hnj1
      rw [hvj] at hrow hcell
      obtain ⟨nj, hnj⟩ : ∃ nj, ej.length = nj := ⟨_, rfl⟩
      rw [hnj] at hrow hcell hnj0 hstep hlo hlj
      have HST := Lib.hid hstep
      by_cases hnj00 : nj = 0
      · have HX0 := Lib.hid (hstep.trans (if_pos hnj00))
        subst hnj00
        clear hj hrow hej hstep hlo hnj
        go_wp2_with (fail)
        go_roundg (i - (j + 1))
        case measure => have := HJ.out; omega
        case rel => exact ⟨rfl, j + 1, by omega, by go_num, by rw [HX0.out]⟩
      · obtain ⟨m, rfl⟩ : ∃ m, nj = m + 1 := ⟨nj - 1, by omega⟩
        obtain ⟨bj, oj, rfl, _, hlast⟩ := hrow.one (i := m) (by omega)
        have hlo' : 0 ≤ ej.getD m 0 := hlo (by omega)
        obtain ⟨x, hx⟩ : ∃ x, ej.getD m 0 = x := ⟨_, rfl⟩
        rw [intC, hx] at hlast
        rw [hx] at hlo'
        have y1 : (((m + 1 : Nat) : Int) - 1) = m := by omega
        have HX : Hid ((startOf es (j + 1) : Int) = x) := Lib.hid (by rw [HST.out, if_neg (by omega), Nat.add_sub_cancel, hx]; omega)
        clear hj hrow hej hstep hlo hnj hx hnj00
        go_wp2_with (fail)
        go_roundg (i - (j + 1))
        case measure => have := HJ.out; omega
        case rel => exact ⟨rfl, j + 1, by omega, by go_num, by rw [HX.out]⟩
    · have ei' : j = i := by omega
      subst ei'
      clear hj
      rw [HA.out]
      have q5' : W0.cell? ⟨b5, o5 + j, none⟩ = some (.slice Ai ni ci) := (HB0.out.cell (p := ⟨b5, o5 + j, none⟩) hb5).trans q5
      obtain ⟨B, hBB⟩ : ∃ B, W0.heap.size = B := ⟨_, rfl⟩
      obtain ⟨v0, v1, v2, v3, v4, v5, v6, vf⟩ := seven_cells HM0.out
      have hI : KidI B w (.cells #[Value.int .i64 6, .int .i64 l, .int .i64 s, .slice A3 nf c3, .slice A4 ne c4, .slice (some ⟨b5, o5, none⟩) nes c5, .slice A6 nk c6] 28) l a ei 0 (W0.alloc (.cells #[Value.int .i64 3, .int .i64 l, .int .i64 0, .slice none 0 0, .slice none 0 0, .slice none 0 0, .slice none 0 0] 28)) (.slice none 0 0) := by
        have hn := heap_alloc_new W0 (.cells #[Value.int .i64 3, .int .i64 l, .int .i64 0, .slice none 0 0, .slice none 0 0, .slice none 0 0, .slice none 0 0] 28)
        rw [hBB] at hn
        exact ⟨by rw [← hBB, HSZ.out]; omega, HB0.out.alloc HB0.out.size _, heap_alloc_old _ HM0.out, heap_alloc_old _ HM1.out, hn, ⟨rfl, Or.inl ⟨rfl, rfl⟩⟩⟩
      have HI0 := Lib.hid hI
      have HBB := Lib.hid hBB
      have t1 : w.heap.size < W0.heap.size := by rw [HSZ.out]; omega
      have t2 : b5 < W0.heap.size := Nat.lt_trans hb5 t1
      clear hI hBB
      go_wp2_with (fail)
      rw [HBB.out]
      have HPR := Lib.hid (prevE_at HK.out hsf)
      go_loopg [9, 54] ni (fun gk v9 vc wr => ∃ t : Nat, t + gk = ni ∧ vc = .int .i64 t ∧ v9 = .int .i64 (prevE a ei t : Nat) ∧ ∃ gv, Hid (KidI B w (.cells #[Value.int .i64 6, .int .i64 l, .int .i64 s, .slice A3 nf c3, .slice A4 ne c4, .slice (some ⟨b5, o5, none⟩) nes c5, .slice A6 nk c6] 28) l a ei t wr gv))
      case atStart => exact ⟨0, by omega, rfl, rfl, _, HI0⟩
      case round =>
        obtain ⟨t, ht, rfl, rfl, gv, HI⟩ := hrel
        obtain ⟨gA, gn, gc, rfl⟩ : ∃ a n c, gv = Value.slice a n c := by
          rcases HI.out.own.2 with ⟨hv, _⟩ | ⟨g, cap, cur, hv, _⟩
          · exact ⟨_, _, _, hv⟩
          · exact ⟨_, _, _, hv⟩
        have hHB := HI.out.hB
        by_cases hlt : t < ni
        · have HT := Lib.hid ht
          obtain ⟨bi, oi, rfl, hbi, qi⟩ := HRI.out.one hlt
          obtain ⟨x, hx⟩ : ∃ x, ei.getD t 0 = x := ⟨_, rfl⟩
          rw [intC, hx] at qi
          have qi' : wr.cell? ⟨bi, oi + t, none⟩ = some (.int .i64 x) := (HI.out.below.cell (p := ⟨bi, oi + t, none⟩) hbi).trans qi
          have hkt := HK.out t (by rw [HNI.out]; exact hlt)
          have hpt := HPR.out t (by rw [HNI.out]; omega)
          rw [hx] at hkt
          have b1 : (a : Int) ≤ x := by omega
          have b2 : x ≤ 2097152 := by omega
          have HPX : Hid (((prevE a ei (t + 1) : Nat) : Int) = x) := Lib.hid (by rw [prevE_succ, hx]; omega)
          have HS : Hid (shiftC a ei (t + 1) = shiftC a ei t ++ [.int .i64 (x - a)]) := Lib.hid (by rw [shiftC_succ, hx])
          obtain ⟨i3, hi3, hy0, hy1, hy2⟩ := info_parts info3
          have cB : wr.cell? ⟨B, 4, none⟩ = some (.slice gA gn gc) := Lib.cell_of_heap HI.out.kid 4
          obtain ⟨y, hy⟩ : ∃ y, x - (a : Int) = y := ⟨_, rfl⟩
          rw [hy] at HS
          have hys : IntKind.i64.wrap (x - (a : Int)) = y := by rw [IntWalk.i64_in _ (by omega)]; exact hy
          have HIS := Lib.hid (HI.out.still ((Below.refl _ wr).alloc (Nat.le_refl _) (.cells #[.int .i64 y] 3)))
          have HP : Hid (∀ j u, [Value.int .i64 y][j]? = some u → (wr.alloc (.cells #[.int .i64 y] 3)).cell? ((⟨wr.heap.size, 0, none⟩ : Addr).add j) = some u) := Lib.hid fun j u hj => by
            match j, hj with
            | 0, hj => simp at hj; subst hj; simpa [Addr.add] using Lib.cell_of_heap (heap_alloc_new wr (.cells #[.int .i64 y] 3)) 0
          clear ht hx hkt hpt qi
          go_wp2_with (at_builtin; refine wpList_append_own_at _ rfl _ _ 25 rfl (B + 1) 3 i3 (.int .i64 0) 1 8 Tryz.underlying25 hi3 hy0 hy1 hy2 rfl (by decide) _ t (shiftC a ei t) rfl HIS.out.own ⟨wr.heap.size, 0, none⟩ 1 1 [Value.int .i64 y] rfl rfl HP.out (by intro u hu; simp at hu; subst hu; rfl) (by unfold maxLen; omega) (by omega) (lt_of_get HIS.out.kid) ?_)
          intro v7 w7 hown7 hgrow7 _ _
          rw [← HS.out] at hown7
          obtain ⟨hM, c7, f7⟩ := HIS.out.push hown7 hgrow7
          obtain ⟨a7, n7, cc7, rfl⟩ : ∃ a n c, v7 = Value.slice a n c := by
            rcases hown7.2 with ⟨hv, _⟩ | ⟨g, cap, cur, hv, _⟩
            · exact ⟨_, _, _, hv⟩
            · exact ⟨_, _, _, hv⟩
          have HM := Lib.hid hM
          clear hM hown7 hgrow7
          go_wp2_with (fail)
          go_roundg (ni - (t + 1))
          case measure => have := HT.out; omega
          case rel => exact ⟨t + 1, by omega, by go_num, by rw [HPX.out], _, HM⟩
        · have et : t = ni := by omega
          subst et
          clear ht
          have hz := HPR.out t (by rw [HNI.out]; exact Nat.le_refl _)
          obtain ⟨z, hzz⟩ : ∃ z, prevE a ei t = z := ⟨_, rfl⟩
          have HZ : Hid (endOf a ei = z) := Lib.hid (by rw [endOf, HNI.out, hzz])
          rw [hzz] at hz ⊢
          clear hzz
          obtain ⟨i0, hi0, hz0, hz1, hz2⟩ := info_parts info146
          have c03 : wr.cell? ⟨w.heap.size, 3, none⟩ = some (.slice A3 nf c3) := Lib.cell_of_heap HI.out.k0 3
          have hsB := lt_of_get HI.out.kid
          have t3 : w.heap.size < wr.heap.size := by omega
          have x1 : (a : Int) ≤ (z : Int) := by omega
          have x2 : (0 : Int) ≤ (a : Int) := by omega
          have x3 : (z : Int) ≤ (c3 : Int) := by omega
          have HRF := Lib.hid HRNG.out.flat
          have HRL := Lib.hid HRNG.out.layout
          have HRE := Lib.hid (fun t (ht : t < ei.length) => HK.out t ht)
          by_cases hm0 : a = z
          · subst hm0
            cases A3 with
            | none =>
              go_wp2_with (at_builtin; refine wpList_append_none rfl _ _ rfl rfl ⟨wr.heap.size, 0, none⟩ (c3 - a) (by simp [Act.eval, Act.put]) (by simp [Act.eval, Act.put]) ?_; intro w9 hw9; have HOW9 : Hid (w9.ownsRow wr.heap.size 146 1 (.slice (some ⟨wr.heap.size, 0, none⟩) 0 0) 0 []) := Lib.hid (by rw [hw9]; exact own_empty wr 146 wr.heap.size (Nat.le_refl _)); have HB9 : Hid (Below wr.heap.size wr w9) := Lib.hid (by rw [hw9]; exact (Below.refl _ wr).alloc (Nat.le_refl _) _); clear hw9; have hI9 := HI.out.still HB9.out; have s3 : w9.cell? ⟨B, 3, none⟩ = some (.slice none 0 0) := Lib.cell_of_heap hI9.kid 3; have sf : w9.frozen? ⟨B, 3, none⟩ = false := Lib.frozen_of_heap hI9.kid 3; have hgn := hI9.own; obtain ⟨_, _, hgv⟩ := own_form hgn; injection hgv with hg1 hg2 hg3; subst hg1 hg2 hg3; obtain ⟨k0, k1, k2, k3⟩ := part6_end (z := a) (f := f) (m := 0) hI9 HNI.out HOW9.out hsB (Nat.sub_self a) (by omega) (by rw [HNF.out]; omega) HRF.out HRL.out HK.out hsf hf; obtain ⟨r0, r1, r2, r3, r4, r5, r6, rf⟩ := seven_cells k0; obtain ⟨y0, y1, y2, y3, y4, y5, y6, yf⟩ := seven_cells k1; obtain ⟨u0, u1, u2, u3, u4, u5, u6, _⟩ := seven_cells k2; have END := Lib.hid k3; have U0 := Lib.hid (And.intro u0 (And.intro u1 (And.intro u2 (And.intro u3 (And.intro u4 (And.intro u5 u6)))))); clear k0 k1 k2 k3 hI9 hgn u0 u1 u2 u3 u4 u5 u6)
              obtain ⟨u0, u1, u2, u3, u4, u5, u6⟩ := U0.out
              refine bodyPost_ret (res72 _ (w.heap.size + 1) _ rfl u0 u1 u2 u3 u4 u5 u6) rfl ?_
              rw [HZ.out]
              exact END.out
            | some ad =>
              by_cases hq : c3 = a
              · go_wp2_with (at_builtin; refine wpList_append_own_at _ rfl _ _ 24 rfl wr.heap.size 146 i0 (.float .f64 0) 1 8 Tryz.underlying24 hi0 hz0 hz1 hz2 rfl (by decide) (.slice (some ⟨wr.heap.size, 0, none⟩) 0 0) 0 [] rfl (own_empty wr 146 wr.heap.size (Nat.le_refl _)) ad 0 (c3 - a) [] (by simp [Act.eval, Act.put, hq]) rfl (fun j u h => nomatch h) (fun u h => nomatch h) (by unfold maxLen; omega) (by omega) (by simp) ?_)
                intro v9 w9 hown9 hgrow9 _ _
                obtain ⟨A9, k9, rfl⟩ := own_form hown9
                have hB9 : Below wr.heap.size wr w9 := ((Below.refl _ wr).alloc (Nat.le_refl _) _).grown hgrow9 (by simp) (fun k hk => by injection hk with hk; exact Nat.le_of_eq hk)
                have hI9 := HI.out.still hB9
                have hgn := hI9.own
                obtain ⟨_, _, hgv⟩ := own_form hgn
                injection hgv with hg1 hg2 hg3
                subst hg1 hg2 hg3
                obtain ⟨k0, k1, k2, k3⟩ := part6_end (z := a) (f := f) (m := 0) hI9 HNI.out hown9 hsB (Nat.sub_self a) (by omega) (by rw [HNF.out]; omega) HRF.out HRL.out HK.out hsf hf
                obtain ⟨r0, r1, r2, r3, r4, r5, r6, rf⟩ := seven_cells k0
                obtain ⟨y0, y1, y2, y3, y4, y5, y6, yf⟩ := seven_cells k1
                obtain ⟨u0, u1, u2, u3, u4, u5, u6, _⟩ := seven_cells k2
                have s3 : w9.cell? ⟨B, 3, none⟩ = some (.slice none 0 0) := Lib.cell_of_heap hI9.kid 3
                have sf : w9.frozen? ⟨B, 3, none⟩ = false := Lib.frozen_of_heap hI9.kid 3
                have END := Lib.hid k3
                have U0 := Lib.hid (And.intro u0 (And.intro u1 (And.intro u2 (And.intro u3 (And.intro u4 (And.intro u5 u6))))))
                clear k0 k1 k2 k3 hB9 hI9 hgn hown9 hgrow9 u0 u1 u2 u3 u4 u5 u6
                go_wp2_with (fail)
                obtain ⟨u0, u1, u2, u3, u4, u5, u6⟩ := U0.out
                refine bodyPost_ret (res72 _ (w.heap.size + 1) _ rfl u0 u1 u2 u3 u4 u5 u6) rfl ?_
                rw [HZ.out]
                exact END.out
              · go_wp2_with (at_builtin; refine wpList_append_own_at _ rfl _ _ 24 rfl wr.heap.size 146 i0 (.float .f64 0) 1 8 Tryz.underlying24 hi0 hz0 hz1 hz2 rfl (by decide) (.slice (some ⟨wr.heap.size, 0, none⟩) 0 0) 0 [] rfl (own_empty wr 146 wr.heap.size (Nat.le_refl _)) (ad.add a) 0 (c3 - a) [] (by simp [Act.eval, Act.put, hq]) rfl (fun j u h => nomatch h) (fun u h => nomatch h) (by unfold maxLen; omega) (by omega) (by simp) ?_)
                intro v9 w9 hown9 hgrow9 _ _
                obtain ⟨A9, k9, rfl⟩ := own_form hown9
                have hB9 : Below wr.heap.size wr w9 := ((Below.refl _ wr).alloc (Nat.le_refl _) _).grown hgrow9 (by simp) (fun k hk => by injection hk with hk; exact Nat.le_of_eq hk)
                have hI9 := HI.out.still hB9
                have hgn := hI9.own
                obtain ⟨_, _, hgv⟩ := own_form hgn
                injection hgv with hg1 hg2 hg3
                subst hg1 hg2 hg3
                obtain ⟨k0, k1, k2, k3⟩ := part6_end (z := a) (f := f) (m := 0) hI9 HNI.out hown9 hsB (Nat.sub_self a) (by omega) (by rw [HNF.out]; omega) HRF.out HRL.out HK.out hsf hf
                obtain ⟨r0, r1, r2, r3, r4, r5, r6, rf⟩ := seven_cells k0
                obtain ⟨y0, y1, y2, y3, y4, y5, y6, yf⟩ := seven_cells k1
                obtain ⟨u0, u1, u2, u3, u4, u5, u6, _⟩ := seven_cells k2
                have s3 : w9.cell? ⟨B, 3, none⟩ = some (.slice none 0 0) := Lib.cell_of_heap hI9.kid 3
                have sf : w9.frozen? ⟨B, 3, none⟩ = false := Lib.frozen_of_heap hI9.kid 3
                have END := Lib.hid k3
                have U0 := Lib.hid (And.intro u0 (And.intro u1 (And.intro u2 (And.intro u3 (And.intro u4 (And.intro u5 u6))))))
                clear k0 k1 k2 k3 hB9 hI9 hgn hown9 hgrow9 u0 u1 u2 u3 u4 u5 u6
                go_wp2_with (fail)
                obtain ⟨u0, u1, u2, u3, u4, u5, u6⟩ := U0.out
                refine bodyPost_ret (res72 _ (w.heap.size + 1) _ rfl u0 u1 u2 u3 u4 u5 u6) rfl ?_
                rw [HZ.out]
                exact END.out
          · obtain ⟨b3, o3, rfl, _, _⟩ := HFL.out.at_ (i := 0) (by omega)
            have hnc : ¬ c3 = a := by omega
            have HEM := Lib.hid (own_empty wr 146 wr.heap.size (Nat.le_refl _))
            have HBW : Hid (Below w.heap.size w (wr.alloc (.cells #[] 146))) := Lib.hid (HI.out.below.alloc HI.out.below.size _)
            go_wp2_with (at_builtin; refine wpList_append_own_at _ rfl _ _ 24 rfl wr.heap.size 146 i0 (.float .f64 0) 1 8 Tryz.underlying24 hi0 hz0 hz1 hz2 rfl (by decide) (.slice (some ⟨wr.heap.size, 0, none⟩) 0 0) 0 [] rfl HEM.out ⟨b3, o3 + a, none⟩ (z - a) (c3 - a) (segC f a (z - a)) (by simp [Act.eval, Act.put, hnc]) (by rw [segC_length, Nat.mul_one]) (segC_cells (HFL.out.below (Nat.le_refl _) HBW.out) (by omega)) (segC_one _ _ _) (by unfold maxLen; omega) (by omega) (by simp) ?_)
            intro v9 w9 hown9 hgrow9 _ _
            obtain ⟨A9, k9, rfl⟩ := own_form hown9
            have hB9 : Below wr.heap.size wr w9 := ((Below.refl _ wr).alloc (Nat.le_refl _) _).grown hgrow9 (by simp) (fun k hk => by injection hk with hk; exact Nat.le_of_eq hk)
            have hI9 := HI.out.still hB9
            have hgn := hI9.own
            obtain ⟨_, _, hgv⟩ := own_form hgn
            injection hgv with hg1 hg2 hg3
            subst hg1 hg2 hg3
            obtain ⟨k0, k1, k2, k3⟩ := part6_end (z := z) (f := f) hI9 HNI.out hown9 hsB rfl (by omega) (by rw [HNF.out]; omega) HRF.out HRL.out HK.out hsf hf
            obtain ⟨r0, r1, r2, r3, r4, r5, r6, rf⟩ := seven_cells k0
            obtain ⟨y0, y1, y2, y3, y4, y5, y6, yf⟩ := seven_cells k1
            obtain ⟨u0, u1, u2, u3, u4, u5, u6, _⟩ := seven_cells k2
            have s3 : w9.cell? ⟨B, 3, none⟩ = some (.slice none 0 0) := Lib.cell_of_heap hI9.kid 3
            have sf : w9.frozen? ⟨B, 3, none⟩ = false := Lib.frozen_of_heap hI9.kid 3
            have END := Lib.hid k3
            have U0 := Lib.hid (And.intro u0 (And.intro u1 (And.intro u2 (And.intro u3 (And.intro u4 (And.intro u5 u6))))))
            clear k0 k1 k2 k3 hB9 hI9 hgn hown9 hgrow9 u0 u1 u2 u3 u4 u5 u6
            go_wp2_with (fail)
            obtain ⟨u0, u1, u2, u3, u4, u5, u6⟩ := U0.out
            refine bodyPost_ret (res72 _ (w.heap.size + 1) _ rfl u0 u1 u2 u3 u4 u5 u6) rfl ?_
            rw [HZ.out]
            exact END.out
end Go.Proofs.YtokmamakmaojpaaGreatDoor

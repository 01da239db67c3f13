/-
  impl.geometry: kinds of one row.
-/
import Derived.Test.YtokmamakmaojpaaGreatDoorM28
import Derived.Test.YtokmamakmaojpaaGreatDoorM18
import Derived.Deep.RegionHeld3
set_option linter.unusedVariables false
set_option linter.unusedSimpArgs false
namespace Go.Proofs.YtokmamakmaojpaaGreatDoor
open Go.RowKit

/-- What geometry leaves: a geometry of the package, all of new blocks. -/
def GeoRet (g : G) (w : World) (e : Ending) (w' : World) : Prop := ∃ v, e = .returned v ∧ TAt (hole (oldB w.heap.size) w') v g ∧ Below w.heap.size w w'
/-- The box of the argument stays. -/
theorem box_kept {w : World} {a0 a1 a2 a3 a4 a5 a6 : Value} {T : TypeId} (n : Nat) (w1 : World) (h : Below ((w.alloc (.cells #[a0, a1, a2, a3, a4, a5, a6] T)).drewN n).heap.size ((w.alloc (.cells #[a0, a1, a2, a3, a4, a5, a6] T)).drewN n) w1) :
    w1.cell? ⟨w.heap.size, 0, none⟩ = some a0 ∧ w1.cell? ⟨w.heap.size, 1, none⟩ = some a1 ∧ w1.cell? ⟨w.heap.size, 2, none⟩ = some a2 ∧ w1.cell? ⟨w.heap.size, 3, none⟩ = some a3 ∧
      w1.cell? ⟨w.heap.size, 4, none⟩ = some a4 ∧ w1.cell? ⟨w.heap.size, 5, none⟩ = some a5 ∧ w1.cell? ⟨w.heap.size, 6, none⟩ = some a6 ∧ w.heap.size < w1.heap.size := by
  obtain ⟨g0, g1, g2, g3, g4, g5, g6⟩ := old_cells (w := (w.alloc (.cells #[a0, a1, a2, a3, a4, a5, a6] T)).drewN n) (b := w.heap.size) (heap_alloc_new w _) (by simp) h
  have := h.size
  simp at this
  exact ⟨g0, g1, g2, g3, g4, g5, g6, by omega⟩

theorem two_cells (w : World) (x y : Value) (T U : TypeId) : ((w.alloc (.cells #[x] T)).alloc (.cells #[y] U)).cell? ⟨w.heap.size + 1, 0, none⟩ = some y ∧ ((w.alloc (.cells #[x] T)).alloc (.cells #[y] U)).cell? ⟨w.heap.size, 0, none⟩ = some x := by
  have e : (w.alloc (.cells #[x] T)).heap.size = w.heap.size + 1 := by simp
  refine ⟨?_, ?_⟩
  · have h := Lib.cell_of_heap (heap_alloc_new (w.alloc (.cells #[x] T)) (.cells #[y] U)) 0
    rw [e] at h
    exact h
  · exact (World.cell?_alloc_lt _ _ ⟨w.heap.size, 0, none⟩ (by show w.heap.size < _; rw [e]; omega)).trans (Lib.cell_of_heap (heap_alloc_new w _) 0)
theorem third_cell (w : World) (a b : Obj) (cs : Array Value) (T : TypeId) (j : Nat) : (((w.alloc a).alloc b).alloc (.cells cs T)).cell? ⟨w.heap.size + 2, j, none⟩ = cs[j]? ∧ (((w.alloc a).alloc b).alloc (.cells cs T)).frozen? ⟨w.heap.size + 2, j, none⟩ = false := by
  have e : ((w.alloc a).alloc b).heap.size = w.heap.size + 2 := by simp
  have h := heap_alloc_new ((w.alloc a).alloc b) (.cells cs T)
  rw [e] at h
  exact ⟨Lib.cell_of_heap h j, Lib.frozen_of_heap h j⟩
theorem two_size (w : World) (a b : Obj) : ((w.alloc a).alloc b).heap.size = w.heap.size + 2 := by simp
theorem old3 (w : World) (a b o : Obj) {p : Addr} {v : Value} (h : w.cell? p = some v) : (((w.alloc a).alloc b).alloc o).cell? p = some v := by
  have e : ∀ (x : World) (o : Obj), x.cell? p = some v → (x.alloc o).cell? p = some v := fun x o h => (World.cell?_alloc_lt _ _ _ (World.block_lt_of_cell? x p h)).trans h
  exact e _ _ (e _ _ (e _ _ h))
theorem heap_third (w : World) (a b o : Obj) : (((w.alloc a).alloc b).alloc o).heap[w.heap.size + 2]? = some o := by
  have e : ((w.alloc a).alloc b).heap.size = w.heap.size + 2 := by simp
  have h := heap_alloc_new ((w.alloc a).alloc b) o
  rw [e] at h
  exact h
theorem geo_pt_end {k l s st : Int} {f : List Nat} {e : List Int} {es : List (List Int)} {kids : List G} (hk : k = 1 ∨ k = 2 ∨ k = 8) (hst : strideF l = st) {w w2 W : World} {B : Nat} (hB : w.heap.size ≤ B) (h2 : Below w.heap.size w w2) {A9 : Option Addr} {c9 nf : Nat} (hnf : f.length = nf)
    (hrow : RowAt (hole (oldB B) w2) (.slice A9 nf c9) nf 1 (fltC f)) (hW : Below w2.heap.size w2 W) (hb : W.heap[w2.heap.size]? = some (.cells #[.int .i64 l, .int .i64 st, .slice A9 nf c9, .int .i64 s] (blkT k) (0, 0))) :
    TAt (hole (oldB w.heap.size) W) (.iface (ptrT k) (.pointer (some ⟨w2.heap.size, 0, none⟩))) (.mk k l s f e es kids) ∧ Below w.heap.size w W := by
  refine ⟨.pt k l s f e es kids w2.heap.size (.slice A9 nf c9) hk ?_ ?_, h2.trans (hW.mono h2.size)⟩
  · rw [hst]
    exact hole_keep hb (oldB_no h2.size)
  · rw [hnf]
    exact hrow.mono (Sub.fresh hW hB) (by omega)
theorem geo_rg_end {k l s st : Int} {f : List Nat} {e : List Int} {es : List (List Int)} {kids : List G} (hk : k = 3 ∨ k = 4 ∨ k = 5) (hst : strideF l = st) {w w2 w3 W : World} {B B' x : Nat} (hB : w.heap.size ≤ B) (hB' : w.heap.size ≤ B') (h2 : Below w.heap.size w w2) (h3 : Below w2.heap.size w2 w3) {A9 A8 : Option Addr} {c9 nf c8 ne : Nat} (hnf : f.length = nf) (hne : e.length = ne)
    (hrow : RowAt (hole (oldB B) w2) (.slice A9 nf c9) nf 1 (fltC f)) (hrow4 : RowAt (hole (oldB B') w3) (.slice A8 ne c8) ne 1 (intC e)) (hW : Below w3.heap.size w3 W) (hx : w.heap.size ≤ x) (hb : W.heap[x]? = some (.cells #[.int .i64 l, .int .i64 st, .slice A9 nf c9, .int .i64 s, .slice A8 ne c8] (blkT k) (0, 0))) :
    TAt (hole (oldB w.heap.size) W) (.iface (ptrT k) (.pointer (some ⟨x, 0, none⟩))) (.mk k l s f e es kids) ∧ Below w.heap.size w W := by
  have h13 : Below w.heap.size w w3 := h2.trans (h3.mono h2.size)
  refine ⟨.rg k l s f e es kids x (.slice A9 nf c9) (.slice A8 ne c8) hk ?_ ?_ ?_, h13.trans (hW.mono h13.size)⟩
  · rw [hst]
    exact hole_keep hb (oldB_no hx)
  · rw [hnf]
    exact hrow.mono (Sub.fresh (h3.trans (hW.mono h3.size)) hB) (by omega)
  · rw [hne]
    exact hrow4.mono (Sub.fresh hW hB') (by omega)
theorem geo_mp_end {l s st : Int} {f : List Nat} {e : List Int} {es : List (List Int)} {kids : List G} (hst : strideF l = st) {w w2 w3 W : World} {B B' x : Nat} (hB : w.heap.size ≤ B) (hB' : w.heap.size ≤ B') (h2 : Below w.heap.size w w2) (h3 : Below w2.heap.size w2 w3) {A9 A8 : Option Addr} {c9 nf c8 q : Nat} {ev : Nat → Value} (hnf : f.length = nf) (hq : es.length = q)
    (hrow : RowAt (hole (oldB B) w2) (.slice A9 nf c9) nf 1 (fltC f)) (hrow5 : RowAt (hole (oldB B') w3) (.slice A8 q c8) q 1 (fun i _ => ev i)) (hrows : ∀ i, i < q → RowAt (hole (oldB B') w3) (ev i) (es.getD i []).length 1 (intC (es.getD i [])))
    (hW : Below w3.heap.size w3 W) (hx : w.heap.size ≤ x) (hb : W.heap[x]? = some (.cells #[.int .i64 l, .int .i64 st, .slice A9 nf c9, .int .i64 s, .slice A8 q c8] 134 (0, 0))) :
    TAt (hole (oldB w.heap.size) W) (.iface 89 (.pointer (some ⟨x, 0, none⟩))) (.mk 6 l s f e es kids) ∧ Below w.heap.size w W := by
  have h13 : Below w.heap.size w w3 := h2.trans (h3.mono h2.size)
  refine ⟨.mp l s f e es kids x (.slice A9 nf c9) (.slice A8 q c8) ev ?_ ?_ ?_ (fun i hi => ?_), h13.trans (hW.mono h13.size)⟩
  · rw [hst]
    exact hole_keep hb (oldB_no hx)
  · rw [hnf]
    exact hrow.mono (Sub.fresh (h3.trans (hW.mono h3.size)) hB) (by omega)
  · rw [hq]
    exact hrow5.mono (Sub.fresh hW hB') (by omega)
  · rw [hq] at hi
    exact (hrows i hi).mono (Sub.fresh hW hB') (by omega)

set_option maxRecDepth 100000 in
set_option maxHeartbeats 4000000 in
theorem geo_1 (l s : Int) (f : List Nat) (e : List Int) (es : List (List Int)) (kids : List G) (hl0 : 1 ≤ l) (hl9 : l ≤ 9) (hf : f.length ≤ 2097152) (c : Nat → Value) (w : World) (hg : GAt w c (.mk 1 l s f e es kids)) :
    Calls Tryz.prog 14 #[.agg #[c 0, c 1, c 2, c 3, c 4, c 5, c 6]] w (GeoRet (.mk 1 l s f e es kids) w) := by
  obtain ⟨A3, A4, A5, A6, c3, c4, c5, c6, e0, e1, e2, e3, e4, e5, e6, ho⟩ := hg.open_
  rw [e0, e1, e2, e3, e4, e5, e6]
  have hfl : ∀ w', Below w.heap.size w w' → Calls Tryz.prog 24 #[.slice A3 f.length c3] w' (RowRet f.length (fltC f) w') := fun w' h => floats24 f.length hf f _ w' (ho.flat.below (Nat.le_refl _) h)
  have hnew := fun A n cc w' => new25 l (by omega) hl9 A n cc w'
  obtain ⟨ne, hne⟩ : ∃ ne, e.length = ne := ⟨_, rfl⟩
  obtain ⟨nes, hnes⟩ : ∃ nes, es.length = nes := ⟨_, rfl⟩
  obtain ⟨nk, hnk⟩ : ∃ nk, kids.length = nk := ⟨_, rfl⟩
  obtain ⟨nf, hnf⟩ : ∃ nf, f.length = nf := ⟨_, rfl⟩
  rw [hne, hnes, hnk, hnf]
  rw [hnf] at hfl hf
  obtain ⟨st, hst⟩ : ∃ st, strideF l = st := ⟨_, rfl⟩
  simp only [hst] at hnew
  have HST := Lib.hid hst
  have HNF := Lib.hid hnf
  have HNE := Lib.hid hne
  have HNES := Lib.hid hnes
  have HFL := Lib.hid hfl
  have HNEW := Lib.hid hnew
  have HBX : Hid (Below w.heap.size w (w.alloc (.cells #[.int .i64 1, .int .i64 l, .int .i64 s, .slice A3 nf c3, .slice A4 ne c4, .slice A5 nes c5, .slice A6 nk c6] 28))) := Lib.hid ((Below.refl _ w).alloc (Nat.le_refl _) _)
  have HKP : Hid (∀ w1, Below ((w.alloc (.cells #[Value.int .i64 1, .int .i64 l, .int .i64 s, .slice A3 nf c3, .slice A4 ne c4, .slice A5 nes c5, .slice A6 nk c6] 28)).drewN 1).heap.size ((w.alloc (.cells #[Value.int .i64 1, .int .i64 l, .int .i64 s, .slice A3 nf c3, .slice A4 ne c4, .slice A5 nes c5, .slice A6 nk c6] 28)).drewN 1) w1 → _) := Lib.hid fun w1 h => box_kept 1 w1 h
  have HSZ : Hid (w.heap.size ≤ ((w.alloc (.cells #[Value.int .i64 1, .int .i64 l, .int .i64 s, .slice A3 nf c3, .slice A4 ne c4, .slice A5 nes c5, .slice A6 nk c6] 28)).drewN 1).heap.size) := Lib.hid (by simp)
  clear e0 e1 e2 e3 e4 e5 e6 hg ho hfl hnew hne hnes hnk hnf hst
  go_enter Tryz.func14, Tryz.ntmps14
  go_upto_region 1 with (fail)
  go_region_held3 (fun w' => w'.cell? ⟨w.heap.size, 1, none⟩ = some (.int .i64 l) ∧ w'.cell? ⟨w.heap.size, 3, none⟩ = some (.slice A3 nf c3)) (go_keep) ((go_at_call 24; refine (HFL.out _ (below_drewN HBX.out 1)).mono ?_; rintro e w2 ⟨A9, c9, rfl, hnil, hrow, hB2⟩; have HROW := Lib.hid hrow; have HB2 := Lib.hid hB2; have HB02 := Lib.hid ((below_drewN HBX.out 1).trans (hB2.mono HSZ.out)); obtain ⟨g0, g1, g2, g3, g4, g5, g6, g7⟩ := HKP.out w2 hB2; clear hnil hrow hB2))
  all_goals
    go_upto_region 4 with (fail)
    go_region_held3 (fun w' => w'.cell? ⟨w.heap.size, 2, none⟩ = some (.int .i64 s)) (go_keep) (first | ((go_at_call 25; refine (HNEW.out _ _ _ _).mono ?_; rintro e w3 ⟨rfl, rfl⟩)) | ((go_at_call 26; refine (srid26 w2.heap.size s 0 _ (by go_simp) (by go_simp)).mono ?_; rintro e w4 ⟨rfl, rfl⟩)))
    all_goals
      go_wp2_with (fail)
      go_ret
      exact ⟨_, rfl, geo_pt_end (k := 1) (by decide) HST.out HSZ.out HB02.out HNF.out HROW.out (below_drewN ((Below.refl _ w2).alloc (Nat.le_refl _) _) 1) (heap_alloc_new w2 _)⟩

set_option maxRecDepth 100000 in
set_option maxHeartbeats 4000000 in
theorem geo_2 (l s : Int) (f : List Nat) (e : List Int) (es : List (List Int)) (kids : List G) (hl0 : 1 ≤ l) (hl9 : l ≤ 9) (hf : f.length ≤ 2097152) (c : Nat → Value) (w : World) (hg : GAt w c (.mk 2 l s f e es kids)) :
    Calls Tryz.prog 14 #[.agg #[c 0, c 1, c 2, c 3, c 4, c 5, c 6]] w (GeoRet (.mk 2 l s f e es kids) w) := by
  obtain ⟨A3, A4, A5, A6, c3, c4, c5, c6, e0, e1, e2, e3, e4, e5, e6, ho⟩ := hg.open_
  rw [e0, e1, e2, e3, e4, e5, e6]
  have hfl : ∀ w', Below w.heap.size w w' → Calls Tryz.prog 24 #[.slice A3 f.length c3] w' (RowRet f.length (fltC f) w') := fun w' h => floats24 f.length hf f _ w' (ho.flat.below (Nat.le_refl _) h)
  have hnew := fun A n cc w' => new27 l (by omega) hl9 A n cc w'
  obtain ⟨ne, hne⟩ : ∃ ne, e.length = ne := ⟨_, rfl⟩
  obtain ⟨nes, hnes⟩ : ∃ nes, es.length = nes := ⟨_, rfl⟩
  obtain ⟨nk, hnk⟩ : ∃ nk, kids.length = nk := ⟨_, rfl⟩
  obtain ⟨nf, hnf⟩ : ∃ nf, f.length = nf := ⟨_, rfl⟩
  rw [hne, hnes, hnk, hnf]
  rw [hnf] at hfl hf
  obtain ⟨st, hst⟩ : ∃ st, strideF l = st := ⟨_, rfl⟩
  simp only [hst] at hnew
  have HST := Lib.hid hst
  have HNF := Lib.hid hnf
  have HNE := Lib.hid hne
  have HNES := Lib.hid hnes
  have HFL := Lib.hid hfl
  have HNEW := Lib.hid hnew
  have HBX : Hid (Below w.heap.size w (w.alloc (.cells #[.int .i64 2, .int .i64 l, .int .i64 s, .slice A3 nf c3, .slice A4 ne c4, .slice A5 nes c5, .slice A6 nk c6] 28))) := Lib.hid ((Below.refl _ w).alloc (Nat.le_refl _) _)
  have HKP : Hid (∀ w1, Below ((w.alloc (.cells #[Value.int .i64 2, .int .i64 l, .int .i64 s, .slice A3 nf c3, .slice A4 ne c4, .slice A5 nes c5, .slice A6 nk c6] 28)).drewN 1).heap.size ((w.alloc (.cells #[Value.int .i64 2, .int .i64 l, .int .i64 s, .slice A3 nf c3, .slice A4 ne c4, .slice A5 nes c5, .slice A6 nk c6] 28)).drewN 1) w1 → _) := Lib.hid fun w1 h => box_kept 1 w1 h
  have HSZ : Hid (w.heap.size ≤ ((w.alloc (.cells #[Value.int .i64 2, .int .i64 l, .int .i64 s, .slice A3 nf c3, .slice A4 ne c4, .slice A5 nes c5, .slice A6 nk c6] 28)).drewN 1).heap.size) := Lib.hid (by simp)
  clear e0 e1 e2 e3 e4 e5 e6 hg ho hfl hnew hne hnes hnk hnf hst
  go_enter Tryz.func14, Tryz.ntmps14
  go_upto_region 1 with (fail)
  go_region_held3 (fun w' => w'.cell? ⟨w.heap.size, 1, none⟩ = some (.int .i64 l) ∧ w'.cell? ⟨w.heap.size, 3, none⟩ = some (.slice A3 nf c3)) (go_keep) ((go_at_call 24; refine (HFL.out _ (below_drewN HBX.out 1)).mono ?_; rintro e w2 ⟨A9, c9, rfl, hnil, hrow, hB2⟩; have HROW := Lib.hid hrow; have HB2 := Lib.hid hB2; have HB02 := Lib.hid ((below_drewN HBX.out 1).trans (hB2.mono HSZ.out)); obtain ⟨g0, g1, g2, g3, g4, g5, g6, g7⟩ := HKP.out w2 hB2; clear hnil hrow hB2))
  all_goals
    go_upto_region 6 with (fail)
    go_region_held3 (fun w' => w'.cell? ⟨w.heap.size, 2, none⟩ = some (.int .i64 s)) (go_keep) (first | ((go_at_call 27; refine (HNEW.out _ _ _ _).mono ?_; rintro e w3 ⟨rfl, rfl⟩)) | ((go_at_call 28; refine (srid28 w2.heap.size s 0 _ (by go_simp) (by go_simp)).mono ?_; rintro e w4 ⟨rfl, rfl⟩)))
    all_goals
      go_wp2_with (fail)
      go_ret
      exact ⟨_, rfl, geo_pt_end (k := 2) (by decide) HST.out HSZ.out HB02.out HNF.out HROW.out (below_drewN ((Below.refl _ w2).alloc (Nat.le_refl _) _) 1) (heap_alloc_new w2 _)⟩

set_option maxRecDepth 100000 in
set_option maxHeartbeats 4000000 in
theorem geo_8 (l s : Int) (f : List Nat) (e : List Int) (es : List (List Int)) (kids : List G) (hl0 : 1 ≤ l) (hl9 : l ≤ 9) (hf : f.length ≤ 2097152) (c : Nat → Value) (w : World) (hg : GAt w c (.mk 8 l s f e es kids)) :
    Calls Tryz.prog 14 #[.agg #[c 0, c 1, c 2, c 3, c 4, c 5, c 6]] w (GeoRet (.mk 8 l s f e es kids) w) := by
  obtain ⟨A3, A4, A5, A6, c3, c4, c5, c6, e0, e1, e2, e3, e4, e5, e6, ho⟩ := hg.open_
  rw [e0, e1, e2, e3, e4, e5, e6]
  have hfl : ∀ w', Below w.heap.size w w' → Calls Tryz.prog 24 #[.slice A3 f.length c3] w' (RowRet f.length (fltC f) w') := fun w' h => floats24 f.length hf f _ w' (ho.flat.below (Nat.le_refl _) h)
  have hnew := fun A n cc w' => new29 l (by omega) hl9 A n cc w'
  obtain ⟨ne, hne⟩ : ∃ ne, e.length = ne := ⟨_, rfl⟩
  obtain ⟨nes, hnes⟩ : ∃ nes, es.length = nes := ⟨_, rfl⟩
  obtain ⟨nk, hnk⟩ : ∃ nk, kids.length = nk := ⟨_, rfl⟩
  obtain ⟨nf, hnf⟩ : ∃ nf, f.length = nf := ⟨_, rfl⟩
  rw [hne, hnes, hnk, hnf]
  rw [hnf] at hfl hf
  obtain ⟨st, hst⟩ : ∃ st, strideF l = st := ⟨_, rfl⟩
  simp only [hst] at hnew
  have HST := Lib.hid hst
  have HNF := Lib.hid hnf
  have HNE := Lib.hid hne
  have HNES := Lib.hid hnes
  have HFL := Lib.hid hfl
  have HNEW := Lib.hid hnew
  have HBX : Hid (Below w.heap.size w (w.alloc (.cells #[.int .i64 8, .int .i64 l, .int .i64 s, .slice A3 nf c3, .slice A4 ne c4, .slice A5 nes c5, .slice A6 nk c6] 28))) := Lib.hid ((Below.refl _ w).alloc (Nat.le_refl _) _)
  have HKP : Hid (∀ w1, Below ((w.alloc (.cells #[Value.int .i64 8, .int .i64 l, .int .i64 s, .slice A3 nf c3, .slice A4 ne c4, .slice A5 nes c5, .slice A6 nk c6] 28)).drewN 1).heap.size ((w.alloc (.cells #[Value.int .i64 8, .int .i64 l, .int .i64 s, .slice A3 nf c3, .slice A4 ne c4, .slice A5 nes c5, .slice A6 nk c6] 28)).drewN 1) w1 → _) := Lib.hid fun w1 h => box_kept 1 w1 h
  have HSZ : Hid (w.heap.size ≤ ((w.alloc (.cells #[Value.int .i64 8, .int .i64 l, .int .i64 s, .slice A3 nf c3, .slice A4 ne c4, .slice A5 nes c5, .slice A6 nk c6] 28)).drewN 1).heap.size) := Lib.hid (by simp)
  clear e0 e1 e2 e3 e4 e5 e6 hg ho hfl hnew hne hnes hnk hnf hst
  go_enter Tryz.func14, Tryz.ntmps14
  go_upto_region 1 with (fail)
  go_region_held3 (fun w' => w'.cell? ⟨w.heap.size, 1, none⟩ = some (.int .i64 l) ∧ w'.cell? ⟨w.heap.size, 3, none⟩ = some (.slice A3 nf c3)) (go_keep) ((go_at_call 24; refine (HFL.out _ (below_drewN HBX.out 1)).mono ?_; rintro e w2 ⟨A9, c9, rfl, hnil, hrow, hB2⟩; have HROW := Lib.hid hrow; have HB2 := Lib.hid hB2; have HB02 := Lib.hid ((below_drewN HBX.out 1).trans (hB2.mono HSZ.out)); obtain ⟨g0, g1, g2, g3, g4, g5, g6, g7⟩ := HKP.out w2 hB2; clear hnil hrow hB2))
  all_goals
    go_upto_region 8 with (fail)
    go_region_held3 (fun w' => w'.cell? ⟨w.heap.size, 2, none⟩ = some (.int .i64 s)) (go_keep) (first | ((go_at_call 29; refine (HNEW.out _ _ _ _).mono ?_; rintro e w3 ⟨rfl, rfl⟩)) | ((go_at_call 30; refine (srid30 w2.heap.size s 0 _ (by go_simp) (by go_simp)).mono ?_; rintro e w4 ⟨rfl, rfl⟩)))
    all_goals
      go_wp2_with (fail)
      go_ret
      exact ⟨_, rfl, geo_pt_end (k := 8) (by decide) HST.out HSZ.out HB02.out HNF.out HROW.out (below_drewN ((Below.refl _ w2).alloc (Nat.le_refl _) _) 1) (heap_alloc_new w2 _)⟩

set_option maxRecDepth 100000 in
set_option maxHeartbeats 4000000 in
theorem geo_3 (l s : Int) (f : List Nat) (e : List Int) (es : List (List Int)) (kids : List G) (hl0 : 1 ≤ l) (hl9 : l ≤ 9) (hf : f.length ≤ 2097152) (he : e.length ≤ 2097152) (c : Nat → Value) (w : World) (hg : GAt w c (.mk 3 l s f e es kids)) :
    Calls Tryz.prog 14 #[.agg #[c 0, c 1, c 2, c 3, c 4, c 5, c 6]] w (GeoRet (.mk 3 l s f e es kids) w) := by
  obtain ⟨A3, A4, A5, A6, c3, c4, c5, c6, e0, e1, e2, e3, e4, e5, e6, ho⟩ := hg.open_
  rw [e0, e1, e2, e3, e4, e5, e6]
  have hfl : ∀ w', Below w.heap.size w w' → Calls Tryz.prog 24 #[.slice A3 f.length c3] w' (RowRet f.length (fltC f) w') := fun w' h => floats24 f.length hf f _ w' (ho.flat.below (Nat.le_refl _) h)
  have hnew := fun A n cc A' n' cc' w' => new31 l (by omega) hl9 A n cc A' n' cc' w'
  have hin : ∀ w', Below w.heap.size w w' → Calls Tryz.prog 32 #[.slice A4 e.length c4] w' (RowRet e.length (intC e) w') := fun w' h => ints32 e.length he e _ w' (ho.ends.below (Nat.le_refl _) h)
  obtain ⟨ne, hne⟩ : ∃ ne, e.length = ne := ⟨_, rfl⟩
  obtain ⟨nes, hnes⟩ : ∃ nes, es.length = nes := ⟨_, rfl⟩
  obtain ⟨nk, hnk⟩ : ∃ nk, kids.length = nk := ⟨_, rfl⟩
  obtain ⟨nf, hnf⟩ : ∃ nf, f.length = nf := ⟨_, rfl⟩
  rw [hne, hnes, hnk, hnf]
  rw [hnf] at hfl hf
  rw [hne] at hin he
  obtain ⟨st, hst⟩ : ∃ st, strideF l = st := ⟨_, rfl⟩
  simp only [hst] at hnew
  have HST := Lib.hid hst
  have HNF := Lib.hid hnf
  have HNE := Lib.hid hne
  have HNES := Lib.hid hnes
  have HFL := Lib.hid hfl
  have HIN := Lib.hid hin
  have HNEW := Lib.hid hnew
  have HBX : Hid (Below w.heap.size w (w.alloc (.cells #[.int .i64 3, .int .i64 l, .int .i64 s, .slice A3 nf c3, .slice A4 ne c4, .slice A5 nes c5, .slice A6 nk c6] 28))) := Lib.hid ((Below.refl _ w).alloc (Nat.le_refl _) _)
  have HKP : Hid (∀ w1, Below ((w.alloc (.cells #[Value.int .i64 3, .int .i64 l, .int .i64 s, .slice A3 nf c3, .slice A4 ne c4, .slice A5 nes c5, .slice A6 nk c6] 28)).drewN 1).heap.size ((w.alloc (.cells #[Value.int .i64 3, .int .i64 l, .int .i64 s, .slice A3 nf c3, .slice A4 ne c4, .slice A5 nes c5, .slice A6 nk c6] 28)).drewN 1) w1 → _) := Lib.hid fun w1 h => box_kept 1 w1 h
  have HSZ : Hid (w.heap.size ≤ ((w.alloc (.cells #[Value.int .i64 3, .int .i64 l, .int .i64 s, .slice A3 nf c3, .slice A4 ne c4, .slice A5 nes c5, .slice A6 nk c6] 28)).drewN 1).heap.size) := Lib.hid (by simp)
  clear e0 e1 e2 e3 e4 e5 e6 hg ho hfl hnew hne hnes hnk hnf hst hin he
  go_enter Tryz.func14, Tryz.ntmps14
  go_upto_region 1 with (fail)
  go_region_held3 (fun w' => w'.cell? ⟨w.heap.size, 1, none⟩ = some (.int .i64 l) ∧ w'.cell? ⟨w.heap.size, 3, none⟩ = some (.slice A3 nf c3)) (go_keep) ((go_at_call 24; refine (HFL.out _ (below_drewN HBX.out 1)).mono ?_; rintro e w2 ⟨A9, c9, rfl, hnil, hrow, hB2⟩; have HROW := Lib.hid hrow; have HB2 := Lib.hid hB2; have HB02 := Lib.hid ((below_drewN HBX.out 1).trans (hB2.mono HSZ.out)); obtain ⟨g0, g1, g2, g3, g4, g5, g6, g7⟩ := HKP.out w2 hB2; clear hnil hrow hB2))
  all_goals
    go_upto_region 10 with (fail)
    go_region_held3 (fun w' => w'.cell? ⟨w.heap.size, 2, none⟩ = some (.int .i64 s) ∧ w'.cell? ⟨w.heap.size, 4, none⟩ = some (.slice A4 ne c4)) (go_keep) (first | ((go_at_call 32; refine (HIN.out _ (below_drewN HB02.out 1)).mono ?_; rintro e w3 ⟨A8, c8, rfl, hnil, hrow, hB3⟩; have HROW4 := Lib.hid hrow; have HB3 := Lib.hid hB3; have p2 := (hB3.cell (p := ⟨w.heap.size, 2, none⟩) g7).trans g2; have p4 := (hB3.cell (p := ⟨w.heap.size, 4, none⟩) g7).trans g4; have p7 : w.heap.size < w3.heap.size := Nat.lt_of_lt_of_le g7 hB3.size; clear hnil hrow hB3)) | ((go_at_call 31; refine (HNEW.out _ _ _ _ _ _ _).mono ?_; rintro e w4 ⟨rfl, rfl⟩)) | ((go_at_call 33; refine (srid33 w3.heap.size s 0 _ (by go_simp) (by go_simp)).mono ?_; rintro e w5 ⟨rfl, rfl⟩)))
    all_goals
      go_wp2_with (fail)
      go_ret
      exact ⟨_, rfl, geo_rg_end (k := 3) (by decide) HST.out HSZ.out HB02.out.size HB02.out ((below_drewN (Below.refl _ w2) 1).trans HB3.out) HNF.out HNE.out HROW.out HROW4.out ((Below.refl _ w3).alloc (Nat.le_refl _) _) (Nat.le_of_lt p7) (heap_alloc_new w3 _)⟩

set_option maxRecDepth 100000 in
set_option maxHeartbeats 4000000 in
theorem geo_5 (l s : Int) (f : List Nat) (e : List Int) (es : List (List Int)) (kids : List G) (hl0 : 1 ≤ l) (hl9 : l ≤ 9) (hf : f.length ≤ 2097152) (he : e.length ≤ 2097152) (c : Nat → Value) (w : World) (hg : GAt w c (.mk 5 l s f e es kids)) :
    Calls Tryz.prog 14 #[.agg #[c 0, c 1, c 2, c 3, c 4, c 5, c 6]] w (GeoRet (.mk 5 l s f e es kids) w) := by
  obtain ⟨A3, A4, A5, A6, c3, c4, c5, c6, e0, e1, e2, e3, e4, e5, e6, ho⟩ := hg.open_
  rw [e0, e1, e2, e3, e4, e5, e6]
  have hfl : ∀ w', Below w.heap.size w w' → Calls Tryz.prog 24 #[.slice A3 f.length c3] w' (RowRet f.length (fltC f) w') := fun w' h => floats24 f.length hf f _ w' (ho.flat.below (Nat.le_refl _) h)
  have hnew := fun A n cc A' n' cc' w' => new37 l (by omega) hl9 A n cc A' n' cc' w'
  have hin : ∀ w', Below w.heap.size w w' → Calls Tryz.prog 32 #[.slice A4 e.length c4] w' (RowRet e.length (intC e) w') := fun w' h => ints32 e.length he e _ w' (ho.ends.below (Nat.le_refl _) h)
  obtain ⟨ne, hne⟩ : ∃ ne, e.length = ne := ⟨_, rfl⟩
  obtain ⟨nes, hnes⟩ : ∃ nes, es.length = nes := ⟨_, rfl⟩
  obtain ⟨nk, hnk⟩ : ∃ nk, kids.length = nk := ⟨_, rfl⟩
  obtain ⟨nf, hnf⟩ : ∃ nf, f.length = nf := ⟨_, rfl⟩
  rw [hne, hnes, hnk, hnf]
  rw [hnf] at hfl hf
  rw [hne] at hin he
  obtain ⟨st, hst⟩ : ∃ st, strideF l = st := ⟨_, rfl⟩
  simp only [hst] at hnew
  have HST := Lib.hid hst
  have HNF := Lib.hid hnf
  have HNE := Lib.hid hne
  have HNES := Lib.hid hnes
  have HFL := Lib.hid hfl
  have HIN := Lib.hid hin
  have HNEW := Lib.hid hnew
  have HBX : Hid (Below w.heap.size w (w.alloc (.cells #[.int .i64 5, .int .i64 l, .int .i64 s, .slice A3 nf c3, .slice A4 ne c4, .slice A5 nes c5, .slice A6 nk c6] 28))) := Lib.hid ((Below.refl _ w).alloc (Nat.le_refl _) _)
  have HKP : Hid (∀ w1, Below ((w.alloc (.cells #[Value.int .i64 5, .int .i64 l, .int .i64 s, .slice A3 nf c3, .slice A4 ne c4, .slice A5 nes c5, .slice A6 nk c6] 28)).drewN 1).heap.size ((w.alloc (.cells #[Value.int .i64 5, .int .i64 l, .int .i64 s, .slice A3 nf c3, .slice A4 ne c4, .slice A5 nes c5, .slice A6 nk c6] 28)).drewN 1) w1 → _) := Lib.hid fun w1 h => box_kept 1 w1 h
  have HSZ : Hid (w.heap.size ≤ ((w.alloc (.cells #[Value.int .i64 5, .int .i64 l, .int .i64 s, .slice A3 nf c3, .slice A4 ne c4, .slice A5 nes c5, .slice A6 nk c6] 28)).drewN 1).heap.size) := Lib.hid (by simp)
  clear e0 e1 e2 e3 e4 e5 e6 hg ho hfl hnew hne hnes hnk hnf hst hin he
  go_enter Tryz.func14, Tryz.ntmps14
  go_upto_region 1 with (fail)
  go_region_held3 (fun w' => w'.cell? ⟨w.heap.size, 1, none⟩ = some (.int .i64 l) ∧ w'.cell? ⟨w.heap.size, 3, none⟩ = some (.slice A3 nf c3)) (go_keep) ((go_at_call 24; refine (HFL.out _ (below_drewN HBX.out 1)).mono ?_; rintro e w2 ⟨A9, c9, rfl, hnil, hrow, hB2⟩; have HROW := Lib.hid hrow; have HB2 := Lib.hid hB2; have HB02 := Lib.hid ((below_drewN HBX.out 1).trans (hB2.mono HSZ.out)); obtain ⟨g0, g1, g2, g3, g4, g5, g6, g7⟩ := HKP.out w2 hB2; clear hnil hrow hB2))
  all_goals
    go_upto_region 14 with (fail)
    go_region_held3 (fun w' => w'.cell? ⟨w.heap.size, 2, none⟩ = some (.int .i64 s) ∧ w'.cell? ⟨w.heap.size, 4, none⟩ = some (.slice A4 ne c4)) (go_keep) (first | ((go_at_call 32; refine (HIN.out _ (below_drewN HB02.out 1)).mono ?_; rintro e w3 ⟨A8, c8, rfl, hnil, hrow, hB3⟩; have HROW4 := Lib.hid hrow; have HB3 := Lib.hid hB3; have p2 := (hB3.cell (p := ⟨w.heap.size, 2, none⟩) g7).trans g2; have p4 := (hB3.cell (p := ⟨w.heap.size, 4, none⟩) g7).trans g4; have p7 : w.heap.size < w3.heap.size := Nat.lt_of_lt_of_le g7 hB3.size; clear hnil hrow hB3)) | ((go_at_call 37; refine (HNEW.out _ _ _ _ _ _ _).mono ?_; rintro e w4 ⟨rfl, rfl⟩)) | ((go_at_call 38; refine (srid38 w3.heap.size s 0 _ (by go_simp) (by go_simp)).mono ?_; rintro e w5 ⟨rfl, rfl⟩)))
    all_goals
      go_wp2_with (fail)
      go_ret
      exact ⟨_, rfl, geo_rg_end (k := 5) (by decide) HST.out HSZ.out HB02.out.size HB02.out ((below_drewN (Below.refl _ w2) 1).trans HB3.out) HNF.out HNE.out HROW.out HROW4.out ((Below.refl _ w3).alloc (Nat.le_refl _) _) (Nat.le_of_lt p7) (heap_alloc_new w3 _)⟩

set_option maxRecDepth 100000 in
set_option maxHeartbeats 4000000 in
theorem geo_6 (l s : Int) (f : List Nat) (e : List Int) (es : List (List Int)) (kids : List G) (hl0 : 1 ≤ l) (hl9 : l ≤ 9) (hf : f.length ≤ 2097152) (hes : es.length ≤ 2097152) (hez : ∀ i, i < es.length → (es.getD i []).length ≤ 2097152) (c : Nat → Value) (w : World) (hg : GAt w c (.mk 6 l s f e es kids)) :
    Calls Tryz.prog 14 #[.agg #[c 0, c 1, c 2, c 3, c 4, c 5, c 6]] w (GeoRet (.mk 6 l s f e es kids) w) := by
  obtain ⟨A3, A4, A5, A6, c3, c4, c5, c6, e0, e1, e2, e3, e4, e5, e6, ho⟩ := hg.open_
  rw [e0, e1, e2, e3, e4, e5, e6]
  have hfl : ∀ w', Below w.heap.size w w' → Calls Tryz.prog 24 #[.slice A3 f.length c3] w' (RowRet f.length (fltC f) w') := fun w' h => floats24 f.length hf f _ w' (ho.flat.below (Nat.le_refl _) h)
  have hnew := fun A n cc A' n' cc' w' => new39 l (by omega) hl9 A n cc A' n' cc' w'
  obtain ⟨ev0, hev0, hrows0⟩ := ho.endss
  have hin : ∀ w', Below w.heap.size w w' → Calls Tryz.prog 40 #[.slice A5 es.length c5] w' (RowsRet es w') := fun w' h => intss40 es hes hez _ ev0 w' (hev0.below (Nat.le_refl _) h) (fun i hi => (hrows0 i hi).below (Nat.le_refl _) h)
  obtain ⟨ne, hne⟩ : ∃ ne, e.length = ne := ⟨_, rfl⟩
  obtain ⟨nes, hnes⟩ : ∃ nes, es.length = nes := ⟨_, rfl⟩
  obtain ⟨nk, hnk⟩ : ∃ nk, kids.length = nk := ⟨_, rfl⟩
  obtain ⟨nf, hnf⟩ : ∃ nf, f.length = nf := ⟨_, rfl⟩
  rw [hne, hnes, hnk, hnf]
  rw [hnf] at hfl hf
  rw [hnes] at hin hes hez
  obtain ⟨st, hst⟩ : ∃ st, strideF l = st := ⟨_, rfl⟩
  simp only [hst] at hnew
  have HST := Lib.hid hst
  have HNF := Lib.hid hnf
  have HNE := Lib.hid hne
  have HNES := Lib.hid hnes
  have HFL := Lib.hid hfl
  have HIN := Lib.hid hin
  have HRS := Lib.hid (fun w W e (h : RowsRet es w e W) => h)
  have HNEW := Lib.hid hnew
  have HBX : Hid (Below w.heap.size w (w.alloc (.cells #[.int .i64 6, .int .i64 l, .int .i64 s, .slice A3 nf c3, .slice A4 ne c4, .slice A5 nes c5, .slice A6 nk c6] 28))) := Lib.hid ((Below.refl _ w).alloc (Nat.le_refl _) _)
  have HKP : Hid (∀ w1, Below ((w.alloc (.cells #[Value.int .i64 6, .int .i64 l, .int .i64 s, .slice A3 nf c3, .slice A4 ne c4, .slice A5 nes c5, .slice A6 nk c6] 28)).drewN 1).heap.size ((w.alloc (.cells #[Value.int .i64 6, .int .i64 l, .int .i64 s, .slice A3 nf c3, .slice A4 ne c4, .slice A5 nes c5, .slice A6 nk c6] 28)).drewN 1) w1 → _) := Lib.hid fun w1 h => box_kept 1 w1 h
  have HSZ : Hid (w.heap.size ≤ ((w.alloc (.cells #[Value.int .i64 6, .int .i64 l, .int .i64 s, .slice A3 nf c3, .slice A4 ne c4, .slice A5 nes c5, .slice A6 nk c6] 28)).drewN 1).heap.size) := Lib.hid (by simp)
  clear e0 e1 e2 e3 e4 e5 e6 hg ho hfl hnew hne hnes hnk hnf hst hin hes hez hev0 hrows0
  go_enter Tryz.func14, Tryz.ntmps14
  go_upto_region 1 with (fail)
  go_region_held3 (fun w' => w'.cell? ⟨w.heap.size, 1, none⟩ = some (.int .i64 l) ∧ w'.cell? ⟨w.heap.size, 3, none⟩ = some (.slice A3 nf c3)) (go_keep) ((go_at_call 24; refine (HFL.out _ (below_drewN HBX.out 1)).mono ?_; rintro e w2 ⟨A9, c9, rfl, hnil, hrow, hB2⟩; have HROW := Lib.hid hrow; have HB2 := Lib.hid hB2; have HB02 := Lib.hid ((below_drewN HBX.out 1).trans (hB2.mono HSZ.out)); obtain ⟨g0, g1, g2, g3, g4, g5, g6, g7⟩ := HKP.out w2 hB2; clear hnil hrow hB2))
  all_goals
    go_upto_region 16 with (fail)
    go_region_held3 (fun w' => w'.cell? ⟨w.heap.size, 2, none⟩ = some (.int .i64 s) ∧ w'.cell? ⟨w.heap.size, 5, none⟩ = some (.slice A5 nes c5)) (go_keep) (first | ((go_at_call 40; refine (HIN.out _ (below_drewN HB02.out 1)).mono ?_; rintro e w3 ⟨A8, c8, ev, he8, hrow, hrows, hB3⟩; rw [HNES.out] at he8; subst he8; have HROW4 := Lib.hid hrow; have HROWS := Lib.hid hrows; have HB3 := Lib.hid hB3; have p2 := (hB3.cell (p := ⟨w.heap.size, 2, none⟩) g7).trans g2; have p5 := (hB3.cell (p := ⟨w.heap.size, 5, none⟩) g7).trans g5; have p7 : w.heap.size < w3.heap.size := Nat.lt_of_lt_of_le g7 hB3.size; clear hrow hrows hB3)) | ((go_at_call 39; refine (HNEW.out _ _ _ _ _ _ _).mono ?_; rintro e w4 ⟨rfl, rfl⟩)) | ((go_at_call 41; refine (srid41 w3.heap.size s 0 _ (by go_simp) (by go_simp)).mono ?_; rintro e w5 ⟨rfl, rfl⟩)))
    all_goals
      go_wp2_with (fail)
      go_ret
      have hr5 := HROW4.out
      have hrs := HROWS.out
      rw [HNES.out] at hr5 hrs
      exact ⟨_, rfl, geo_mp_end HST.out HSZ.out HB02.out.size HB02.out ((below_drewN (Below.refl _ w2) 1).trans HB3.out) HNF.out HNES.out HROW.out hr5 hrs ((Below.refl _ w3).alloc (Nat.le_refl _) _) (Nat.le_of_lt p7) (heap_alloc_new w3 _)⟩

set_option maxRecDepth 100000 in
set_option maxHeartbeats 4000000 in
theorem geo_4 (l s : Int) (f : List Nat) (e : List Int) (es : List (List Int)) (kids : List G) (hl0 : 1 ≤ l) (hl9 : l ≤ 9) (hf : f.length ≤ 2097152) (he : e.length ≤ 2097152) (hef : e.length = 0 → f.length = 0) (c : Nat → Value) (w : World) (hg : GAt w c (.mk 4 l s f e es kids)) :
    Calls Tryz.prog 14 #[.agg #[c 0, c 1, c 2, c 3, c 4, c 5, c 6]] w (GeoRet (.mk 4 l s f e es kids) w) := by
  obtain ⟨A3, A4, A5, A6, c3, c4, c5, c6, e0, e1, e2, e3, e4, e5, e6, ho⟩ := hg.open_
  rw [e0, e1, e2, e3, e4, e5, e6]
  have hfl : ∀ w', Below w.heap.size w w' → Calls Tryz.prog 24 #[.slice A3 f.length c3] w' (RowRet f.length (fltC f) w') := fun w' h => floats24 f.length hf f _ w' (ho.flat.below (Nat.le_refl _) h)
  have hnew := fun A n cc A' n' cc' ob pb w' h1 h2 h3 h4 h5 h6 => new34 l (by omega) hl9 A n cc A' n' cc' ob pb w' h1 h2 h3 h4 h5 h6
  have hin : ∀ w', Below w.heap.size w w' → Calls Tryz.prog 32 #[.slice A4 e.length c4] w' (RowRet e.length (intC e) w') := fun w' h => ints32 e.length he e _ w' (ho.ends.below (Nat.le_refl _) h)
  obtain ⟨ne, hne⟩ : ∃ ne, e.length = ne := ⟨_, rfl⟩
  obtain ⟨nes, hnes⟩ : ∃ nes, es.length = nes := ⟨_, rfl⟩
  obtain ⟨nk, hnk⟩ : ∃ nk, kids.length = nk := ⟨_, rfl⟩
  obtain ⟨nf, hnf⟩ : ∃ nf, f.length = nf := ⟨_, rfl⟩
  rw [hne, hnes, hnk, hnf]
  rw [hnf] at hfl hf
  rw [hne] at hin he hef
  rw [hnf] at hef
  obtain ⟨st, hst⟩ : ∃ st, strideF l = st := ⟨_, rfl⟩
  simp only [hst] at hnew
  have HST := Lib.hid hst
  have HNF := Lib.hid hnf
  have HNE := Lib.hid hne
  have HNES := Lib.hid hnes
  have HFL := Lib.hid hfl
  have HIN := Lib.hid hin
  have HEF := Lib.hid hef
  have HNEW := Lib.hid hnew
  have HBX : Hid (Below w.heap.size w (w.alloc (.cells #[.int .i64 4, .int .i64 l, .int .i64 s, .slice A3 nf c3, .slice A4 ne c4, .slice A5 nes c5, .slice A6 nk c6] 28))) := Lib.hid ((Below.refl _ w).alloc (Nat.le_refl _) _)
  have HKP : Hid (∀ w1, Below ((w.alloc (.cells #[Value.int .i64 4, .int .i64 l, .int .i64 s, .slice A3 nf c3, .slice A4 ne c4, .slice A5 nes c5, .slice A6 nk c6] 28)).drewN 1).heap.size ((w.alloc (.cells #[Value.int .i64 4, .int .i64 l, .int .i64 s, .slice A3 nf c3, .slice A4 ne c4, .slice A5 nes c5, .slice A6 nk c6] 28)).drewN 1) w1 → _) := Lib.hid fun w1 h => box_kept 1 w1 h
  have HSZ : Hid (w.heap.size ≤ ((w.alloc (.cells #[Value.int .i64 4, .int .i64 l, .int .i64 s, .slice A3 nf c3, .slice A4 ne c4, .slice A5 nes c5, .slice A6 nk c6] 28)).drewN 1).heap.size) := Lib.hid (by simp)
  clear e0 e1 e2 e3 e4 e5 e6 hg ho hfl hnew hne hnes hnk hnf hst hin he hef
  go_enter Tryz.func14, Tryz.ntmps14
  go_upto_region 1 with (fail)
  go_region_held3 (fun w' => w'.cell? ⟨w.heap.size, 1, none⟩ = some (.int .i64 l) ∧ w'.cell? ⟨w.heap.size, 3, none⟩ = some (.slice A3 nf c3)) (go_keep) ((go_at_call 24; refine (HFL.out _ (below_drewN HBX.out 1)).mono ?_; rintro e w2 ⟨A9, c9, rfl, hnil, hrow, hB2⟩; have HROW := Lib.hid hrow; have HB2 := Lib.hid hB2; have HB02 := Lib.hid ((below_drewN HBX.out 1).trans (hB2.mono HSZ.out)); obtain ⟨g0, g1, g2, g3, g4, g5, g6, g7⟩ := HKP.out w2 hB2; clear hnil hrow hB2))
  all_goals
    go_upto_region 12 with (fail)
    go_region_held3 (fun w' => w'.cell? ⟨w.heap.size, 2, none⟩ = some (.int .i64 s) ∧ w'.cell? ⟨w.heap.size, 4, none⟩ = some (.slice A4 ne c4)) ((first | go_keep | exact ⟨old3 _ _ _ _ p2, old3 _ _ _ _ p4⟩)) (first | ((go_at_call 32; refine (HIN.out _ (below_drewN HB02.out 1)).mono ?_; rintro e w3 ⟨A8, c8, rfl, hnil, hrow, hB3⟩; have HNIL := Lib.hid hnil; have HROW4 := Lib.hid hrow; have HB3 := Lib.hid hB3; have p2 := (hB3.cell (p := ⟨w.heap.size, 2, none⟩) g7).trans g2; have p4 := (hB3.cell (p := ⟨w.heap.size, 4, none⟩) g7).trans g4; have p7 : w.heap.size < w3.heap.size := Nat.lt_of_lt_of_le g7 hB3.size; have p8 : w.heap.size < w3.heap.size + 1 := Nat.lt_succ_of_lt p7; have p9 : w.heap.size < w3.heap.size + 2 := Nat.lt_succ_of_lt p8; have p9' : w.heap.size < w3.heap.size + 1 + 1 := p9; have p10 : ¬ w.heap.size = w3.heap.size + 2 := Nat.ne_of_lt p9; clear hnil hrow hB3)) | ((go_at_call 35; refine (opt35 _ _ _ _).mono ?_; rintro e w4 ⟨rfl, rfl⟩)) | ((go_at_call 34; refine (HNEW.out _ _ _ _ _ _ (w3.heap.size + 1) w3.heap.size _ hf (fun h => HEF.out (HNIL.out h)) (two_cells w3 _ _ _ _).1 (two_cells w3 _ _ _ _).2 (by rw [two_size]; omega) (by rw [two_size]; omega)).mono ?_; rintro e w5 ⟨rfl, rfl⟩)) | ((go_at_call 36; refine (srid36 (w3.heap.size + 2) s 0 _ (third_cell w3 _ _ _ _ 3).1 (third_cell w3 _ _ _ _ 3).2).mono ?_; rintro e w6 ⟨rfl, rfl⟩)))
    all_goals
      go_wp2_with (fail)
      go_ret
      exact ⟨_, rfl, geo_rg_end (k := 4) (by decide) HST.out HSZ.out HB02.out.size HB02.out ((below_drewN (Below.refl _ w2) 1).trans HB3.out) HNF.out HNE.out HROW.out HROW4.out ((((Below.refl _ w3).alloc (Nat.le_refl _) _).alloc (by simp) _).alloc (by rw [two_size]; omega) _) (by omega) (heap_third w3 _ _ _)⟩
end Go.Proofs.YtokmamakmaojpaaGreatDoor

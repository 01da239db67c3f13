/-
  K0. The specification: names, places, numbers of parts.
  K1. The specification: the parts of polygons, points and lines.
-/
import Derived.Test.YtokmamakmaojpaaGreatDoorM31
import Derived.Deep.AppendLies
import Derived.Deep.RegionHeld3
set_option linter.unusedVariables false
set_option linter.unusedSimpArgs false
set_option linter.unnecessarySimpa false
/- K0. -/
namespace Go.Proofs.YtokmamakmaojpaaGreatDoor
open Go.RowKit

/-- The name of a kind, without the blank. -/
def nameS (k : Int) : List UInt8 :=
  if k = 1 then [80, 79, 73, 78, 84] else if k = 2 ∨ k = 8 then [76, 73, 78, 69, 83, 84, 82, 73, 78, 71] else if k = 3 then [80, 79, 76, 89, 71, 79, 78]
  else if k = 4 then [77, 85, 76, 84, 73, 80, 79, 73, 78, 84] else if k = 5 then [77, 85, 76, 84, 73, 76, 73, 78, 69, 83, 84, 82, 73, 78, 71]
  else if k = 6 then [77, 85, 76, 84, 73, 80, 79, 76, 89, 71, 79, 78] else [71, 69, 79, 77, 69, 84, 82, 89, 67, 79, 76, 76, 69, 67, 84, 73, 79, 78]
theorem nameT_eq (k : Int) : nameT k = nameS k ++ [32] := by
  unfold nameT nameS
  split
  · rfl
  split
  · rfl
  split
  · rfl
  split
  · rfl
  split
  · rfl
  split
  · rfl
  rfl
theorem kindName18 (k : Int) (h : k = 1 ∨ k = 2 ∨ k = 3 ∨ k = 4 ∨ k = 5 ∨ k = 6 ∨ k = 7 ∨ k = 8) (w : World) : Calls Tryz.prog 18 #[.int .i64 k] w (Same (.string ⟨(nameS k).toArray⟩) w) := by
  rcases h with rfl | rfl | rfl | rfl | rfl | rfl | rfl | rfl
  all_goals
    go_enter Tryz.func18, Tryz.ntmps18
    go_wp2
    go_ret
    exact ⟨rfl, rfl⟩
def numP (k : Int) (e es kids : Nat) : Nat := if k = 3 ∨ k = 4 ∨ k = 5 then e else if k = 6 then es else kids
theorem numParts71 (k l s : Int) (hk : k = 1 ∨ k = 2 ∨ k = 3 ∨ k = 4 ∨ k = 5 ∨ k = 6 ∨ k = 7 ∨ k = 8) (A3 A4 A5 A6 : Option Addr) (n3 n4 n5 n6 c3 c4 c5 c6 : Nat) (w : World) :
    Calls Tryz.prog 71 #[.agg #[.int .i64 k, .int .i64 l, .int .i64 s, .slice A3 n3 c3, .slice A4 n4 c4, .slice A5 n5 c5, .slice A6 n6 c6]] w (Ret (.int .i64 (numP k n4 n5 n6 : Nat)) w) := by
  rcases hk with rfl | rfl | rfl | rfl | rfl | rfl | rfl | rfl
  all_goals
    go_enter Tryz.func71, Tryz.ntmps71
    go_wp2
    go_ret
    exact ⟨rfl, (Below.refl _ w).alloc (Nat.le_refl _) _⟩
theorem cat9 (a b : List UInt8) (h : a.length + b.length ≤ 9223372036854775807) (w : World) : (binOp .add 9 (.string ⟨a.toArray⟩) (.string ⟨b.toArray⟩)).run Tryz.prog w = .ok (.string ⟨(a ++ b).toArray⟩) w := by
  have e : (⟨a.toArray⟩ : ByteArray) ++ ⟨b.toArray⟩ = ⟨(a ++ b).toArray⟩ := by
    apply ByteArray.ext
    simp
  have hs : ¬ ((((⟨a.toArray⟩ : ByteArray).size + (⟨b.toArray⟩ : ByteArray).size : Nat) : Int) > IntKind.i64.max) := by
    show ¬ ((((a.toArray).size + (b.toArray).size : Nat) : Int) > 9223372036854775807)
    rw [List.size_toArray, List.size_toArray]
    omega
  rw [binOp_string_add]
  unfold Op.stringOp
  simp only []
  rw [if_neg hs, e]
  rfl
theorem app_ba (a b : List UInt8) : (⟨a.toArray⟩ : ByteArray) ++ ⟨b.toArray⟩ = ⟨(a ++ b).toArray⟩ := by
  apply ByteArray.ext
  simp
theorem getD_lt {flat : List Nat} (hx : ∀ x ∈ flat, x < 18446744073709551616) (i : Nat) : flat.getD i 0 < 18446744073709551616 := by
  rw [List.getD_eq_getElem?_getD]
  rcases Nat.lt_or_ge i flat.length with hi | hi
  · rw [List.getElem?_eq_getElem hi]
    exact hx _ (List.getElem_mem hi)
  · rw [List.getElem?_eq_none hi]
    decide
theorem sepT_length (st i : Nat) : (sepT st i).length ≤ 2 := by
  unfold sepT commaT
  split
  · simp
  · split <;> simp
theorem numsU_length {d : Int} (h0 : -1 ≤ d) (h1 : d ≤ 20) (st : Nat) {flat : List Nat} (hx : ∀ x ∈ flat, x < 18446744073709551616) : ∀ i, (numsU st d flat i).length ≤ 2004 * i
  | 0 => by simp [numsU]
  | i + 1 => by
    have := numsU_length h0 h1 st hx i
    have := numT_length (getD_lt hx i) h0 h1
    have := sepT_length st i
    rw [numsU, List.length_append, List.length_append]
    omega
set_option maxHeartbeats 1000000 in
theorem places48 (st : Nat) (d : Int) (h0 : -1 ≤ d) (h1 : d ≤ 20) (hs0 : 1 ≤ st) (hs1 : st ≤ 9) (flat : List Nat) (hx : ∀ x ∈ flat, x < 18446744073709551616) (hn : flat.length ≤ 2097152) (v : Value) (w : World) (hT : Tabs w) (h : RowAt w v flat.length 1 (fltC flat)) :
    Calls Tryz.prog 48 #[v, .int .i64 st, .int .i64 d] w (Ret (.string ⟨(placesT st d flat).toArray⟩) w) := by
  obtain ⟨A, cap, rfl, hc, hm, _⟩ := id h
  obtain ⟨n, hnn⟩ : ∃ n, flat.length = n := ⟨_, rfl⟩
  rw [hnn] at h hn hc ⊢
  by_cases hz : n = 0
  · subst hz
    have e : placesT st d flat = emptyT := by rw [placesT, if_pos hnn]
    rw [e]
    clear e h hnn
    go_enter Tryz.func48, Tryz.ntmps48
    go_wp2_with (fail)
    go_ret
    exact ⟨rfl, Below.refl _ _⟩
  · have hz' : ((n : Int) == 0) = false := beq_false_of_ne (by omega)
    have e : placesT st d flat = inBr (numsU st d flat n) := by rw [placesT, if_neg (by omega), hnn]
    rw [e]
    have hnum := fun i (hi : i < flat.length) w' hb => writeNumber_any (flat.getD i 0) d (hx _ (by rw [List.getD_eq_getElem?_getD, List.getElem?_eq_getElem hi]; exact List.getElem_mem hi)) h0 h1 w' (hT.below hb) (Nat.le_trans (ff_length (hx _ (by rw [List.getD_eq_getElem?_getD, List.getElem?_eq_getElem hi]; exact List.getElem_mem hi)) h0 h1) (by omega))
    have HNUM := Lib.hid hnum
    have HNL := Lib.hid (numsU_length h0 h1 st hx)
    have HNT := Lib.hid (fun i => numT_length (getD_lt hx i) h0 h1)
    have HR := Lib.hid h
    have HN := Lib.hid hnn
    clear e h hnum hT hx hnn
    go_enter Tryz.func48, Tryz.ntmps48
    go_wp2_with (fail)
    go_loopg [7, 15] n (fun gk v7 vc wr => ∃ i : Nat, i + gk = n ∧ vc = .int .i64 i ∧ v7 = .string ⟨([40] ++ numsU st d flat i).toArray⟩ ∧ Below w.heap.size w wr)
    case atStart => exact ⟨0, by omega, rfl, rfl, Below.refl _ _⟩
    case round =>
      obtain ⟨i, hi, rfl, rfl, hB⟩ := hrel
      by_cases hlt : i < n
      · have HI := Lib.hid hi
        obtain ⟨b, o, rfl, _, hcell⟩ := (HR.out.below (Nat.le_refl _) hB).one hlt
        obtain ⟨x, hxx⟩ : ∃ x, flat.getD i 0 = x := ⟨_, rfl⟩
        have hfx : fltC flat i 0 = .float .f64 x := by rw [fltC, hxx]
        rw [hfx] at hcell
        have hcall := HNUM.out i (by rw [HN.out]; exact hlt) wr hB
        rw [hxx] at hcall
        obtain ⟨t, ht⟩ : ∃ t, [40] ++ numsU st d flat i = t := ⟨_, rfl⟩
        obtain ⟨u, hu⟩ : ∃ u, numT x d = u := ⟨_, rfl⟩
        have hstep : [40] ++ numsU st d flat (i + 1) = t ++ sepT st i ++ u := by rw [← ht, ← hu, ← hxx]; simp [numsU]
        have hlt1 : t.length ≤ 9000000000 := by rw [← ht, List.length_append]; have := HNL.out i; simp; omega
        have hlu : u.length ≤ 3000 := by rw [← hu, ← hxx]; exact Nat.le_trans (HNT.out i) (by omega)
        have q1 : ∀ w, (binOp .add 9 (.string ⟨t.toArray⟩) (.string ⟨#[44, 32]⟩)).run Tryz.prog w = .ok (.string ⟨(t ++ [44, 32]).toArray⟩) w := fun w => cat9 t [44, 32] (by simp; omega) w
        have q2 : ∀ w, (binOp .add 9 (.string ⟨t.toArray⟩) (.string ⟨#[32]⟩)).run Tryz.prog w = .ok (.string ⟨(t ++ [32]).toArray⟩) w := fun w => cat9 t [32] (by simp; omega) w
        have q3 : ∀ w, (binOp .add 9 (.string ⟨(t ++ [44, 32]).toArray⟩) (.string ⟨u.toArray⟩)).run Tryz.prog w = .ok (.string ⟨(t ++ [44, 32] ++ u).toArray⟩) w := fun w => cat9 _ u (by simp; omega) w
        have q4 : ∀ w, (binOp .add 9 (.string ⟨(t ++ [32]).toArray⟩) (.string ⟨u.toArray⟩)).run Tryz.prog w = .ok (.string ⟨(t ++ [32] ++ u).toArray⟩) w := fun w => cat9 _ u (by simp; omega) w
        have q5 : ∀ w, (binOp .add 9 (.string ⟨t.toArray⟩) (.string ⟨u.toArray⟩)).run Tryz.prog w = .ok (.string ⟨(t ++ u).toArray⟩) w := fun w => cat9 _ u (by omega) w
        rw [ht]
        rw [hu] at hcall
        have HC := Lib.hid hcall
        have HS := Lib.hid hstep
        have HB := Lib.hid hB
        clear hi hcall hstep hB hxx hfx ht hu
        by_cases hi0 : i = 0
        · subst hi0
          rw [show ((0 : Nat) : Int) = 0 from rfl]
          rw [Nat.add_zero] at hcell
          go_wp2_with (fail)
          refine HC.out.mono ?_
          rintro e1 w1 ⟨rfl, hB1⟩
          have HB1 := Lib.hid hB1
          clear hB1
          go_wp2_with (fail)
          go_roundg (n - (0 + 1))
          case measure => have := HI.out; omega
          case rel => exact ⟨0 + 1, by omega, by go_num, by rw [HS.out, sepT, if_pos rfl, List.append_nil, app_ba], HB.out.trans (HB1.out.mono HB.out.size)⟩
        · have q0 : ((i : Int) == 0) = false := beq_false_of_ne (by omega)
          have hmod : (i : Int).tmod (st : Int) = ((i % st : Nat) : Int) := rfl
          by_cases hi1 : i % st = 0
          · have z1 : ((i : Int).tmod (st : Int) == 0) = true := by rw [hmod, hi1]; rfl
            go_wp2_with (fail)
            refine HC.out.mono ?_
            rintro e1 w1 ⟨rfl, hB1⟩
            have HB1 := Lib.hid hB1
            clear hB1
            go_wp2_with (fail)
            go_roundg (n - (i + 1))
            case measure => have := HI.out; omega
            case rel => exact ⟨i + 1, by omega, by go_num, by rw [HS.out, sepT, if_neg hi0, if_pos hi1, commaT, app_ba, app_ba], HB.out.trans (HB1.out.mono HB.out.size)⟩
          · have z1 : ((i : Int).tmod (st : Int) == 0) = false := by rw [hmod]; exact beq_false_of_ne (by omega)
            go_wp2_with (fail)
            refine HC.out.mono ?_
            rintro e1 w1 ⟨rfl, hB1⟩
            have HB1 := Lib.hid hB1
            clear hB1
            go_wp2_with (fail)
            go_roundg (n - (i + 1))
            case measure => have := HI.out; omega
            case rel => exact ⟨i + 1, by omega, by go_num, by rw [HS.out, sepT, if_neg hi0, if_neg hi1, app_ba, app_ba], HB.out.trans (HB1.out.mono HB.out.size)⟩
      · have ei : i = n := by omega
        subst ei
        obtain ⟨t, ht⟩ : ∃ t, [40] ++ numsU st d flat i = t := ⟨_, rfl⟩
        have hlt1 : t.length ≤ 9000000000 := by rw [← ht, List.length_append]; have := HNL.out i; simp; omega
        have q1 : ∀ w, (binOp .add 9 (.string ⟨t.toArray⟩) (.string ⟨#[41]⟩)).run Tryz.prog w = .ok (.string ⟨(t ++ [41]).toArray⟩) w := fun w => cat9 t [41] (by simp; omega) w
        have e : inBr (numsU st d flat i) = t ++ [41] := by rw [← ht]; rfl
        have HB := Lib.hid hB
        have E := Lib.hid e
        rw [ht]
        clear hi ht e hB
        go_wp2_with (fail)
        go_ret
        exact ⟨by rw [E.out, ← app_ba]; rfl, HB.out⟩
end Go.Proofs.YtokmamakmaojpaaGreatDoor

/- K1. -/
namespace Go.Proofs.YtokmamakmaojpaaGreatDoor
open Go.RowKit

theorem step_append_own {P : Program} {ops : Array Oper} {o : Oper} {a : Act} {w : World} {K : Act → World → Prop} {Q : Exit → Act → World → Prop} {E : Prop}
    (hg : o.guard = none) (s x : Operand) (t : TypeId) (hop : o.op = Op.call { callee := Callee.builtin Builtin.append, args := #[s, x], argTypes := #[t, t] })
    (base : Nat) (e : TypeId) (i : TypeInfo) (z : Value) (size bytes : Nat) (h1 : P.underlying t = some (.slice e)) (h2 : P.info? e = some i) (h3 : i.zero = some z) (h4 : i.size = size) (h5 : i.bytes = bytes) (h6 : z.cells.size = size) (h7 : 0 < size)
    (v : Value) (n : Nat) (xs : List Value) (hs : a.eval s = v) (hown : w.ownsRow base e size v n xs)
    (ad : Addr) (m c : Nat) (news : List Value) (hx : a.eval x = .slice (some ad) m c) (hn : news.length = m * size) (hc : ∀ j u, news[j]? = some u → w.cell? (ad.add j) = some u) (h1c : ∀ u ∈ news, u.oneCell' = true)
    (b1 : n + m ≤ maxLen) (b2 : (n + m) * bytes ≤ 140737488355328) (hbase : base ≤ w.heap.size)
    (hK : ∀ A c' w', w'.ownsRow base e size (.slice A (n + m) c') (n + m) (xs ++ news) → w.grownBy w' v.ownBlock → K (a.put o.dst (.slice A (n + m) c')) w') :
    if Region.wanted o (yielded ops a.tmps) = true then Oper.wp P o a w K Q else E := by
  have hw : Region.wanted o (yielded ops a.tmps) = true := by simp [Region.wanted, hg]
  rw [if_pos hw]
  obtain ⟨v', w', hr, r1, r2, _, _⟩ := run_append_own_at (P := P) w base t o.type e i z size bytes h1 h2 h3 h4 h5 h6 h7 v n xs hown ad m c news hn hc h1c b1 b2 hbase
  obtain ⟨A, c', rfl⟩ : ∃ A c', v' = Value.slice A (n + m) c' := by
    rcases r1.2 with ⟨hv, h0⟩ | ⟨g, cap, cur, hv, _⟩
    · exact ⟨none, 0, by rw [hv, h0]⟩
    · exact ⟨_, _, hv⟩
  unfold Oper.wp
  simp [execOp, hop, resolve, invoke, builtin, hs, hx, hr, Result.andThen]
  exact hK A c' w' r1 r2

theorem GAt.mono {A A' : World} (hs : Sub A A') {c : Nat → Value} {g : G} (h : GAt A c g) : GAt A' c g := by
  induction h with
  | mk kind layout srid flat ends endss kids c ev kc hr h0 h1 h2 h3 h4 h5 h5' h6 h7 ih =>
    exact .mk kind layout srid flat ends endss kids c ev kc hr h0 h1 h2 (h3.mono hs (by omega)) (h4.mono hs (by omega)) (h5.mono hs (by omega)) (fun i hi => (h5' i hi).mono hs (by omega)) (h6.mono hs (by omega)) ih
/-- What Part leaves: a geometry of new blocks. -/
def PartNew (p : G) (w : World) (e : Ending) (w' : World) : Prop := ∃ c', e = .returned (.agg #[c' 0, c' 1, c' 2, c' 3, c' 4, c' 5, c' 6]) ∧ GAt (hole (oldB w.heap.size) w') c' p ∧ Below w.heap.size w w'
def segC (f : List Nat) (a m : Nat) : List Value := (List.range m).map fun i => .float .f64 (f.getD (a + i) 0)
theorem segC_length (f : List Nat) (a m : Nat) : (segC f a m).length = m := by simp [segC]
theorem segC_at (f : List Nat) (a m i : Nat) (h : i < m) : (segC f a m)[i]? = some (.float .f64 (f.getD (a + i) 0)) := by
  unfold segC
  rw [List.getElem?_map, List.getElem?_range h]
  rfl
theorem segC_one (f : List Nat) (a m : Nat) : ∀ u ∈ segC f a m, u.oneCell' = true := fun u hu => by
  unfold segC at hu
  rw [List.mem_map] at hu
  obtain ⟨i, _, rfl⟩ := hu
  rfl
theorem own_empty (w : World) (T : TypeId) (B : Nat) (h : B ≤ w.heap.size) : (w.alloc (.cells #[] T)).ownsRow B T 1 (.slice (some ⟨w.heap.size, 0, none⟩) 0 0) 0 [] :=
  ⟨rfl, Or.inr ⟨_, 0, #[], rfl, h, heap_alloc_new w _, Nat.le_refl _, Nat.zero_le _, rfl, rfl⟩⟩
theorem own3 (w : World) (x y : Obj) : ((((w.alloc x).alloc y).alloc (.cells #[] 146)).drew).ownsRow (w.heap.size + 2) 146 1 (.slice (some ⟨w.heap.size + 1 + 1, 0, none⟩) 0 0) 0 [] := by
  have h := own_empty ((w.alloc x).alloc y) 146 (w.heap.size + 2) (by rw [two_size]; omega)
  rw [two_size] at h
  exact h
theorem bel3 (w : World) (x y z : Obj) : Below w.heap.size w ((((w.alloc x).alloc y).alloc z).drew) :=
  below_drewN ((((Below.refl _ w).alloc (Nat.le_refl _) _).alloc (by simp) _).alloc (by rw [two_size]; omega) _) 1
theorem size3 (w : World) (x y z : Obj) : w.heap.size + 2 ≤ ((((w.alloc x).alloc y).alloc z).drew).heap.size := by
  show _ ≤ (((w.alloc x).alloc y).alloc z).heap.size
  rw [size_alloc, two_size]
  omega
theorem three_heap (w : World) (x y z : Obj) : ((((w.alloc x).alloc y).alloc z).drew).heap[w.heap.size]? = some x ∧ ((((w.alloc x).alloc y).alloc z).drew).heap[w.heap.size + 1]? = some y := by
  have h1 := heap_alloc_new (w.alloc x) y
  rw [size_alloc] at h1
  exact ⟨heap_alloc_old _ (heap_alloc_old _ (heap_alloc_new w x)), heap_alloc_old _ h1⟩
theorem grown_heap {w : World} {x y z : Obj} {w' : World} (h : ((((w.alloc x).alloc y).alloc z).drew).grownBy w' (some (w.heap.size + 1 + 1))) : w'.heap[w.heap.size]? = some x ∧ w'.heap[w.heap.size + 1]? = some y ∧ (∀ b o v, w.cell? ⟨b, o, none⟩ = some v → w'.cell? ⟨b, o, none⟩ = some v) ∧ Below w.heap.size w w' := by
  obtain ⟨h1, h2⟩ := three_heap w x y z
  have hB := (bel3 w x y z).grown h (bel3 w x y z).size (fun k hk => by injection hk with hk; omega)
  exact ⟨(h.block _ (lt_of_get h1) (fun e => by injection e with e; omega)).trans h1, (h.block _ (lt_of_get h2) (fun e => by injection e with e; omega)).trans h2, fun b o v hc => (hB.cell (p := ⟨b, o, none⟩) (World.block_lt_of_cell? w _ hc)).trans hc, hB⟩
theorem seven_cells {w : World} {b : Nat} {a0 a1 a2 a3 a4 a5 a6 : Value} {T : TypeId} (h : w.heap[b]? = some (.cells #[a0, a1, a2, a3, a4, a5, a6] T (0, 0))) :
    w.cell? ⟨b, 0, none⟩ = some a0 ∧ w.cell? ⟨b, 1, none⟩ = some a1 ∧ w.cell? ⟨b, 2, none⟩ = some a2 ∧ w.cell? ⟨b, 3, none⟩ = some a3 ∧ w.cell? ⟨b, 4, none⟩ = some a4 ∧ w.cell? ⟨b, 5, none⟩ = some a5 ∧ w.cell? ⟨b, 6, none⟩ = some a6 ∧ (∀ j, w.frozen? ⟨b, j, none⟩ = false) :=
  ⟨Lib.cell_of_heap h 0, Lib.cell_of_heap h 1, Lib.cell_of_heap h 2, Lib.cell_of_heap h 3, Lib.cell_of_heap h 4, Lib.cell_of_heap h 5, Lib.cell_of_heap h 6, fun j => Lib.frozen_of_heap h j⟩
/-- Seven stores into a block of seven cells. -/
theorem put7 {w : World} {b : Nat} {x0 x1 x2 x3 x4 x5 x6 : Value} {T : TypeId} (h : w.heap[b]? = some (.cells #[x0, x1, x2, x3, x4, x5, x6] T (0, 0))) (v0 v1 v2 v3 v4 v5 v6 : Value) :
    (((((((w.setCell ⟨b, 0, none⟩ v0).setCell ⟨b, 1, none⟩ v1).setCell ⟨b, 2, none⟩ v2).setCell ⟨b, 3, none⟩ v3).setCell ⟨b, 4, none⟩ v4).setCell ⟨b, 5, none⟩ v5).setCell ⟨b, 6, none⟩ v6).heap[b]? = some (.cells #[v0, v1, v2, v3, v4, v5, v6] T (0, 0)) ∧
    (∀ k, k ≠ b → (((((((w.setCell ⟨b, 0, none⟩ v0).setCell ⟨b, 1, none⟩ v1).setCell ⟨b, 2, none⟩ v2).setCell ⟨b, 3, none⟩ v3).setCell ⟨b, 4, none⟩ v4).setCell ⟨b, 5, none⟩ v5).setCell ⟨b, 6, none⟩ v6).heap[k]? = w.heap[k]?) ∧
    (((((((w.setCell ⟨b, 0, none⟩ v0).setCell ⟨b, 1, none⟩ v1).setCell ⟨b, 2, none⟩ v2).setCell ⟨b, 3, none⟩ v3).setCell ⟨b, 4, none⟩ v4).setCell ⟨b, 5, none⟩ v5).setCell ⟨b, 6, none⟩ v6).heap.size = w.heap.size := by
  have key : ∀ (x : World) (cs : Array Value) (j : Nat) (v : Value), x.heap[b]? = some (.cells cs T (0, 0)) → (x.setCell ⟨b, j, none⟩ v).heap[b]? = some (.cells (cs.setIfInBounds j v) T (0, 0)) := fun x cs j v h => by
    rw [World.setCell]
    simp only [Array.getElem?_modify, if_pos]
    rw [h]
    rfl
  have oth : ∀ (x : World) (j : Nat) (v : Value) (k : Nat), k ≠ b → (x.setCell ⟨b, j, none⟩ v).heap[k]? = x.heap[k]? := fun x j v k hk => Below.heap_setCell _ _ _ _ (fun e => hk (by simp [e]))
  have h0 := key _ _ 0 v0 h
  have h1 := key _ _ 1 v1 h0
  have h2 := key _ _ 2 v2 h1
  have h3 := key _ _ 3 v3 h2
  have h4 := key _ _ 4 v4 h3
  have h5 := key _ _ 5 v5 h4
  have h6 := key _ _ 6 v6 h5
  have sz : ∀ (x : World) (j : Nat) (v : Value), (x.setCell ⟨b, j, none⟩ v).heap.size = x.heap.size := fun x j v => by simp [World.setCell]
  refine ⟨h6.trans (by simp), fun k hk => ?_, by rw [sz, sz, sz, sz, sz, sz, sz]⟩
  rw [oth _ _ _ _ hk, oth _ _ _ _ hk, oth _ _ _ _ hk, oth _ _ _ _ hk, oth _ _ _ _ hk, oth _ _ _ _ hk, oth _ _ _ _ hk]
theorem put7_below {w0 w : World} {B b : Nat} (h : Below B w0 w) (hb : B ≤ b) (v0 v1 v2 v3 v4 v5 v6 : Value) :
    Below B w0 (((((((w.setCell ⟨b, 0, none⟩ v0).setCell ⟨b, 1, none⟩ v1).setCell ⟨b, 2, none⟩ v2).setCell ⟨b, 3, none⟩ v3).setCell ⟨b, 4, none⟩ v4).setCell ⟨b, 5, none⟩ v5).setCell ⟨b, 6, none⟩ v6) :=
  ((((((h.setCell (p := ⟨b, 0, none⟩) hb _).setCell (p := ⟨b, 1, none⟩) hb _).setCell (p := ⟨b, 2, none⟩) hb _).setCell (p := ⟨b, 3, none⟩) hb _).setCell (p := ⟨b, 4, none⟩) hb _).setCell (p := ⟨b, 5, none⟩) hb _).setCell (p := ⟨b, 6, none⟩) hb _
/-- A new geometry of one row of numbers. -/
theorem gat_row {w : World} {k l : Int} {f : List Nat} {v : Value} (hk : RngI k) (hl : RngI l) (hf : ∀ x ∈ f, x < 18446744073709551616) (h : RowAt w v f.length 1 (fltC f)) (c : Nat → Value) (h0 : c 0 = .int .i64 k) (h1 : c 1 = .int .i64 l) (h2 : c 2 = .int .i64 0) (h3 : c 3 = v) (h4 : c 4 = .slice none 0 0) (h5 : c 5 = .slice none 0 0) (h6 : c 6 = .slice none 0 0) :
    GAt w c (.mk k l 0 f [] [] []) :=
  .mk k l 0 f [] [] [] c (fun _ => undef) (fun _ _ => undef) ⟨hk, hl, by unfold RngI; omega, hf, (fun _ h => nomatch h), (fun _ h => nomatch h)⟩ h0 h1 h2 (by rw [h3]; exact h) (by rw [h4]; exact RowAt.nil _ _ _) (by rw [h5]; exact RowAt.nil _ _ _) (fun i hi => absurd hi (by simp)) (by rw [h6]; exact RowAt.nil _ _ _) (fun i hi => absurd hi (by simp))
theorem ownsRow_block {w w' : World} {B : Nat} {e : TypeId} {sz : Nat} {v : Value} {n : Nat} {xs : List Value} (h : w.ownsRow B e sz v n xs) (hb : ∀ g, v.ownBlock = some g → w'.heap[g]? = w.heap[g]?) : w'.ownsRow B e sz v n xs := by
  refine ⟨h.1, ?_⟩
  rcases h.2 with h1 | ⟨g, cap, cur, h1, h2, h3, h4⟩
  · exact Or.inl h1
  · exact Or.inr ⟨g, cap, cur, h1, h2, (hb g (by rw [h1]; rfl)).trans h3, h4⟩
theorem part_end {k l : Int} {f : List Nat} {a b m : Nat} {w w9 W : World} {A9 : Option Addr} {k9 : Nat} (hk : RngI k) (hl : RngI l) (hf : ∀ x ∈ f, x < 18446744073709551616) (hm : b - a = m) (hab : a ≤ b) (hbf : b ≤ f.length)
    (hown : w9.ownsRow (w.heap.size + 2) 146 1 (.slice A9 m k9) m (segC f a m)) (p2 : ∀ k, k ≠ w.heap.size + 1 → W.heap[k]? = w9.heap[k]?) (hB : Below w.heap.size w W) :
    PartNew (.mk k l 0 (seg f a b) [] [] []) w (.returned (.agg #[.int .i64 k, .int .i64 l, .int .i64 0, .slice A9 m k9, .slice none 0 0, .slice none 0 0, .slice none 0 0])) W := by
  refine ⟨fun t => [.int .i64 k, .int .i64 l, .int .i64 0, .slice A9 m k9, .slice none 0 0, .slice none 0 0, .slice none 0 0].getD t undef, rfl, ?_, hB⟩
  have hseg : (seg f a b).length = m := (seg_length hab hbf).trans hm
  have ho : W.ownsRow (w.heap.size + 2) 146 1 (.slice A9 m k9) m (segC f a m) := ownsRow_block hown fun g hg => p2 g (by have := (ownBlock_lt hown hg).1; omega)
  have hr : RowAt (hole (oldB w.heap.size) W) (.slice A9 m k9) (seg f a b).length 1 (fltC (seg f a b)) := by
    rw [hseg]
    refine (RowAt.of_own_new ho fun i hi => ?_).mono (Sub.hole fun k o hk hX => ⟨oldB_no (by have := oldB_inv hX; omega), hk⟩) (by omega)
    rw [segC_at f a _ i hi, fltC, seg_getD (by omega)]
  exact gat_row (f := seg f a b) hk hl (fun x hx => hf x (List.mem_of_mem_drop (List.mem_of_mem_take hx))) hr _ rfl rfl rfl rfl rfl rfl rfl
theorem res72 (tmps : Array Value) (b : Nat) (W : World) (hp : tmps.getD 4 undef = .pointer (some ⟨b, 0, none⟩)) {a0 a1 a2 a3 a4 a5 a6 : Value} (u0 : W.cell? ⟨b, 0, none⟩ = some a0) (u1 : W.cell? ⟨b, 1, none⟩ = some a1) (u2 : W.cell? ⟨b, 2, none⟩ = some a2) (u3 : W.cell? ⟨b, 3, none⟩ = some a3)
    (u4 : W.cell? ⟨b, 4, none⟩ = some a4) (u5 : W.cell? ⟨b, 5, none⟩ = some a5) (u6 : W.cell? ⟨b, 6, none⟩ = some a6) : (results Tryz.f72 tmps).run Tryz.prog W = .ok (.agg #[a0, a1, a2, a3, a4, a5, a6]) W := by
  have hp' : tmps[4]?.getD undef = .pointer (some ⟨b, 0, none⟩) := by simpa using hp
  simp [results, Tryz.results72, go_sem, hp', u0, u1, u2, u3, u4, u5, u6]
theorem two_old (w : World) (x y : Obj) {p : Addr} {v : Value} (h : w.cell? p = some v) : ((w.alloc x).alloc y).cell? p = some v := by
  have e : ∀ (x : World) (o : Obj), x.cell? p = some v → (x.alloc o).cell? p = some v := fun x o h => (World.cell?_alloc_lt _ _ _ (World.block_lt_of_cell? x p h)).trans h
  exact e _ _ (e _ _ h)
theorem segC_cells {w : World} {b o n cap : Nat} {f : List Nat} (h : RowAt w (.slice (some ⟨b, o, none⟩) n cap) n 1 (fltC f)) {a m : Nat} (hm : a + m ≤ n) : ∀ j u, (segC f a m)[j]? = some u → w.cell? ((⟨b, o + a, none⟩ : Addr).add j) = some u := by
  intro j u hu
  have hj : j < m := by
    have := (List.getElem?_eq_some_iff.1 hu).1
    rwa [segC_length] at this
  rw [segC_at f a m j hj] at hu
  injection hu with hu
  obtain ⟨b', o', hA, _, hc⟩ := h.one (i := a + j) (by omega)
  injection hA with hA
  injection hA with h1 h2
  subst h1 h2
  simp only [Addr.add]
  split
  · rename_i h0
    subst h0
    rw [Nat.add_zero] at hc hu
    rw [hc, ← hu]
    rfl
  · rw [Nat.add_assoc, hc, ← hu]
    rfl

set_option maxRecDepth 100000 in
set_option maxHeartbeats 4000000 in
theorem part_3 (l s : Int) (f : List Nat) (e : List Int) (es : List (List Int)) (kids : List G) (c : Nat → Value) (w : World) (hg : GAt w c (.mk 3 l s f e es kids)) (i : Nat) (hi : i < e.length) (a b : Nat) (ha0 : i = 0 → a = 0) (ha : i ≠ 0 → e.getD (i - 1) 0 = (a : Int))
    (hb : e.getD i 0 = (b : Int)) (hab : a ≤ b) (hbf : b ≤ f.length) (hf : f.length ≤ 2097152) (hen : e.length ≤ 2097152) : Calls Tryz.prog 72 #[.agg #[c 0, c 1, c 2, c 3, c 4, c 5, c 6], .int .i64 i] w (PartNew (.mk 8 l 0 (seg f a b) [] [] []) w) := by
  obtain ⟨A3, A4, A5, A6, c3, c4, c5, c6, e0, e1, e2, e3, e4, e5, e6, ho⟩ := hg.open_
  rw [e0, e1, e2, e3, e4, e5, e6]
  obtain ⟨i0, hi0, hz0, hz1, hz2⟩ := info_parts info146
  have hends := ho.ends
  have hflat := ho.flat
  have hrng := ho.rng.layout
  have hrf := ho.rng.flat
  obtain ⟨ne, hne⟩ : ∃ ne, e.length = ne := ⟨_, rfl⟩
  obtain ⟨nes, hnes⟩ : ∃ nes, es.length = nes := ⟨_, rfl⟩
  obtain ⟨nk, hnk⟩ : ∃ nk, kids.length = nk := ⟨_, rfl⟩
  obtain ⟨nf, hnf⟩ : ∃ nf, f.length = nf := ⟨_, rfl⟩
  rw [hne, hnes, hnk, hnf]
  rw [hne] at hi hends hen
  rw [hnf] at hbf hf hflat
  obtain ⟨b4, o4, rfl, hb4, q4⟩ := hends.one hi
  rw [intC, hb] at q4
  have HFL := Lib.hid hflat
  have HRNG := Lib.hid hrng
  have HRF := Lib.hid hrf
  have HSEG : Hid (seg f a b = seg f a b) := Lib.hid rfl
  obtain ⟨hc3a, hc3b⟩ := hflat.le
  obtain ⟨hc4a, hc4b⟩ := hends.le
  have HNF := Lib.hid hnf
  by_cases hi00 : i = 0
  · obtain rfl := ha0 hi00
    subst hi00
    have x1 : (0 : Int) < (ne : Int) := by omega
    have x2 : (0 : Int) ≤ (b : Int) := by omega
    have x3 : (b : Int) ≤ (c3 : Int) := by omega
    clear e0 e1 e2 e3 e4 e5 e6 hg ho hne hnes hnk hnf hends hflat hrng hrf ha ha0 hb
    rw [Nat.add_zero] at q4
    rw [show ((0 : Nat) : Int) = 0 from rfl]
    have z4 := fun x y => two_old w x y q4
    have hne4 : ¬ w.heap.size + 1 = b4 := by omega
    by_cases hm0 : b = 0
    · subst hm0
      cases A3 with
      | none =>
        go_enter Tryz.func72, Tryz.ntmps72
        go_upto_region 27 with (fail)
        go_region_held3 (fun w' => w'.cell? ⟨w.heap.size, 1, none⟩ = some (.int .i64 l) ∧ w'.cell? ⟨w.heap.size, 3, none⟩ = some (.slice none nf c3) ∧ w'.cell? ⟨w.heap.size, 4, none⟩ = some (.slice (some ⟨b4, o4, none⟩) ne c4) ∧ w'.cell? ⟨b4, o4, none⟩ = some (.int .i64 0)) (first | go_keep | exact ⟨k1, k3, k4, k7⟩) (fail)
        all_goals
          obtain ⟨u0, u1, u2, u3, u4, u5, u6, _⟩ := seven_cells (three_heap w (.cells #[Value.int IntKind.i64 3, .int .i64 l, .int .i64 s, .slice none nf c3, .slice (some ⟨b4, o4, none⟩) ne c4, .slice A5 nes c5, .slice A6 nk c6] 28) (.cells #[.int .i64 8, .int .i64 l, .int .i64 0, .slice (some ⟨w.heap.size + 1 + 1, 0, none⟩) 0 0, .slice none 0 0, .slice none 0 0, .slice none 0 0] 28) (.cells #[] 146)).2
          have END := Lib.hid (part_end (k := 8) (f := f) (a := 0) (b := 0) (m := 0) (by unfold RngI; omega) HRNG.out HRF.out (by omega) (by omega) (by rw [HNF.out]; omega) (own3 w (.cells #[Value.int IntKind.i64 3, .int .i64 l, .int .i64 s, .slice none nf c3, .slice (some ⟨b4, o4, none⟩) ne c4, .slice A5 nes c5, .slice A6 nk c6] 28) (.cells #[.int .i64 8, .int .i64 l, .int .i64 0, .slice (some ⟨w.heap.size + 1 + 1, 0, none⟩) 0 0, .slice none 0 0, .slice none 0 0, .slice none 0 0] 28)) (fun _ _ => rfl) (bel3 w _ _ _))
          go_wp2_with (fail)
          refine bodyPost_ret (res72 _ (w.heap.size + 1) _ rfl u0 u1 u2 u3 u4 u5 u6) rfl ?_
          exact END.out
      | some ad =>
        go_enter Tryz.func72, Tryz.ntmps72
        go_upto_region 27 with (fail)
        go_region_held3 (fun w' => w'.cell? ⟨w.heap.size, 1, none⟩ = some (.int .i64 l) ∧ w'.cell? ⟨w.heap.size, 3, none⟩ = some (.slice (some ad) nf c3) ∧ w'.cell? ⟨w.heap.size, 4, none⟩ = some (.slice (some ⟨b4, o4, none⟩) ne c4) ∧ w'.cell? ⟨b4, o4, none⟩ = some (.int .i64 0)) (first | go_keep | exact ⟨k1, k3, k4, k7⟩) ((refine step_append_own rfl (.tmp 94) (.tmp 103) 24 rfl (w.heap.size + 2) 146 i0 (.float .f64 0) 1 8 Tryz.underlying24 hi0 hz0 hz1 hz2 rfl (by decide) (.slice (some ⟨w.heap.size + 1 + 1, 0, none⟩) 0 0) 0 [] rfl (own3 w _ _) ad 0 c3 [] (by simp [Act.eval, Act.put]) rfl (fun j u h => nomatch h) (fun u h => nomatch h) (by unfold maxLen; omega) (by omega) (size3 w _ _ _) ?_; intro A9 k9 w9 hown hgrow; obtain ⟨m0, m1, m2, m3⟩ := grown_heap hgrow; obtain ⟨k0, k1, k2, k3, k4, k5, k6, kf⟩ := seven_cells m0; obtain ⟨r0, r1, r2, r3, r4, r5, r6, rf⟩ := seven_cells m1; have k7 := m2 _ _ _ q4; have HOWN := Lib.hid hown; have HB9 := Lib.hid m3; have HM1 := Lib.hid m1; clear hown hgrow m0 m1 m2 m3))
        all_goals
          obtain ⟨p1, p2, _⟩ := put7 HM1.out (.int .i64 8) (.int .i64 l) (.int .i64 0) (.slice A9 0 k9) (.slice none 0 0) (.slice none 0 0) (.slice none 0 0)
          obtain ⟨u0, u1, u2, u3, u4, u5, u6, _⟩ := seven_cells p1
          have hown := HOWN.out
          have END := Lib.hid (part_end (k := 8) (f := f) (a := 0) (b := 0) (m := 0) (by unfold RngI; omega) HRNG.out HRF.out (by omega) (by omega) (by rw [HNF.out]; omega) hown p2 (put7_below HB9.out (Nat.le_succ _) _ _ _ _ _ _ _))
          clear p1 p2 hown r0 r1 r2 r3 r4 r5 r6 rf
          go_wp2_with (fail)
          refine bodyPost_ret (res72 _ (w.heap.size + 1) _ rfl u0 u1 u2 u3 u4 u5 u6) rfl ?_
          exact END.out
    obtain ⟨b3, o3, rfl, _, _⟩ := HFL.out.at_ (i := 0) (by omega)
    have hnc : ¬ c3 = 0 := by omega
    go_enter Tryz.func72, Tryz.ntmps72
    go_upto_region 27 with (fail)
    go_region_held3 (fun w' => w'.cell? ⟨w.heap.size, 1, none⟩ = some (.int .i64 l) ∧ w'.cell? ⟨w.heap.size, 3, none⟩ = some (.slice (some ⟨b3, o3, none⟩) nf c3) ∧ w'.cell? ⟨w.heap.size, 4, none⟩ = some (.slice (some ⟨b4, o4, none⟩) ne c4) ∧ w'.cell? ⟨b4, o4, none⟩ = some (.int .i64 b)) (first | go_keep | exact ⟨k1, k3, k4, k7⟩) ((refine step_append_own rfl (.tmp 94) (.tmp 103) 24 rfl (w.heap.size + 2) 146 i0 (.float .f64 0) 1 8 Tryz.underlying24 hi0 hz0 hz1 hz2 rfl (by decide) (.slice (some ⟨w.heap.size + 1 + 1, 0, none⟩) 0 0) 0 [] rfl (own3 w _ _) ⟨b3, o3 + 0, none⟩ (b - 0) (c3 - 0) (segC f 0 (b - 0)) (by simp [Act.eval, Act.put, hnc]) (by rw [segC_length, Nat.mul_one]) (segC_cells (HFL.out.below (Nat.le_refl _) (bel3 w _ _ _)) (by omega)) (segC_one _ _ _) (by unfold maxLen; omega) (by omega) (size3 w _ _ _) ?_; intro A9 k9 w9 hown hgrow; obtain ⟨m0, m1, m2, m3⟩ := grown_heap hgrow; obtain ⟨k0, k1, k2, k3, k4, k5, k6, kf⟩ := seven_cells m0; obtain ⟨r0, r1, r2, r3, r4, r5, r6, rf⟩ := seven_cells m1; have k7 := m2 _ _ _ q4; have HOWN := Lib.hid hown; have HB9 := Lib.hid m3; have HM1 := Lib.hid m1; clear hown hgrow m0 m1 m2 m3))
    all_goals
      obtain ⟨p1, p2, _⟩ := put7 HM1.out (.int .i64 8) (.int .i64 l) (.int .i64 0) (.slice A9 (b - 0) k9) (.slice none 0 0) (.slice none 0 0) (.slice none 0 0)
      obtain ⟨u0, u1, u2, u3, u4, u5, u6, _⟩ := seven_cells p1
      have hown := HOWN.out
      rw [Nat.zero_add, List.nil_append] at hown
      have END := Lib.hid (part_end (k := 8) (by unfold RngI; omega) HRNG.out HRF.out rfl hab (by rw [HNF.out]; exact hbf) hown p2 (put7_below HB9.out (Nat.le_succ _) _ _ _ _ _ _ _))
      clear p1 p2 hown r0 r1 r2 r3 r4 r5 r6 rf
      go_wp2_with (fail)
      refine bodyPost_ret (res72 _ (w.heap.size + 1) _ rfl u0 u1 u2 u3 u4 u5 u6) rfl ?_
      exact END.out
  · obtain ⟨j, rfl⟩ : ∃ j, i = j + 1 := ⟨i - 1, by omega⟩
    have ha1 : e.getD j 0 = (a : Int) := ha hi00
    obtain ⟨b4', o4', h4', _, q4'⟩ := hends.one (i := j) (by omega)
    injection h4' with h4'
    injection h4' with h4' h4''
    subst h4' h4''
    rw [intC, ha1] at q4'
    clear e0 e1 e2 e3 e4 e5 e6 hg ho hne hnes hnk hnf hends hflat hrng hrf ha ha0 hb ha1 hi00
    have z4 := fun x y => two_old w x y q4
    have x1 : (j : Int) + 1 < (ne : Int) := by omega
    have x2 : (0 : Int) ≤ (j : Int) + 1 := by omega
    have x3 : (b : Int) ≤ (c3 : Int) := by omega
    have x4 : (a : Int) ≤ (b : Int) := by omega
    have x5 : ((j : Int) + 1).toNat = j + 1 := by omega
    have x6 : (0 : Int) ≤ (a : Int) := by omega
    have z4' := fun x y => two_old w x y q4'
    have hne4 : ¬ w.heap.size + 1 = b4 := by omega
    by_cases hm0 : a = b
    · subst hm0
      cases A3 with
      | none =>
        go_enter Tryz.func72, Tryz.ntmps72
        go_upto_region 27 with (fail)
        go_region_held3 (fun w' => w'.cell? ⟨w.heap.size, 1, none⟩ = some (.int .i64 l) ∧ w'.cell? ⟨w.heap.size, 3, none⟩ = some (.slice none nf c3) ∧ w'.cell? ⟨w.heap.size, 4, none⟩ = some (.slice (some ⟨b4, o4, none⟩) ne c4) ∧ w'.cell? ⟨b4, o4 + (j + 1), none⟩ = some (.int .i64 a)) (first | go_keep | exact ⟨k1, k3, k4, k7⟩) (fail)
        all_goals
          obtain ⟨u0, u1, u2, u3, u4, u5, u6, _⟩ := seven_cells (three_heap w (.cells #[Value.int IntKind.i64 3, .int .i64 l, .int .i64 s, .slice none nf c3, .slice (some ⟨b4, o4, none⟩) ne c4, .slice A5 nes c5, .slice A6 nk c6] 28) (.cells #[.int .i64 8, .int .i64 l, .int .i64 0, .slice (some ⟨w.heap.size + 1 + 1, 0, none⟩) 0 0, .slice none 0 0, .slice none 0 0, .slice none 0 0] 28) (.cells #[] 146)).2
          have END := Lib.hid (part_end (k := 8) (f := f) (a := a) (b := a) (m := 0) (by unfold RngI; omega) HRNG.out HRF.out (by omega) (by omega) (by rw [HNF.out]; omega) (own3 w (.cells #[Value.int IntKind.i64 3, .int .i64 l, .int .i64 s, .slice none nf c3, .slice (some ⟨b4, o4, none⟩) ne c4, .slice A5 nes c5, .slice A6 nk c6] 28) (.cells #[.int .i64 8, .int .i64 l, .int .i64 0, .slice (some ⟨w.heap.size + 1 + 1, 0, none⟩) 0 0, .slice none 0 0, .slice none 0 0, .slice none 0 0] 28)) (fun _ _ => rfl) (bel3 w _ _ _))
          go_wp2_with (fail)
          refine bodyPost_ret (res72 _ (w.heap.size + 1) _ rfl u0 u1 u2 u3 u4 u5 u6) rfl ?_
          exact END.out
      | some ad =>
        by_cases hq : c3 = a
        · go_enter Tryz.func72, Tryz.ntmps72
          go_upto_region 27 with (fail)
          go_region_held3 (fun w' => w'.cell? ⟨w.heap.size, 1, none⟩ = some (.int .i64 l) ∧ w'.cell? ⟨w.heap.size, 3, none⟩ = some (.slice (some ad) nf c3) ∧ w'.cell? ⟨w.heap.size, 4, none⟩ = some (.slice (some ⟨b4, o4, none⟩) ne c4) ∧ w'.cell? ⟨b4, o4 + (j + 1), none⟩ = some (.int .i64 a)) (first | go_keep | exact ⟨k1, k3, k4, k7⟩) ((refine step_append_own rfl (.tmp 94) (.tmp 103) 24 rfl (w.heap.size + 2) 146 i0 (.float .f64 0) 1 8 Tryz.underlying24 hi0 hz0 hz1 hz2 rfl (by decide) (.slice (some ⟨w.heap.size + 1 + 1, 0, none⟩) 0 0) 0 [] rfl (own3 w _ _) ad 0 (c3 - a) [] (by simp [Act.eval, Act.put, hq]) rfl (fun j u h => nomatch h) (fun u h => nomatch h) (by unfold maxLen; omega) (by omega) (size3 w _ _ _) ?_; intro A9 k9 w9 hown hgrow; obtain ⟨m0, m1, m2, m3⟩ := grown_heap hgrow; obtain ⟨k0, k1, k2, k3, k4, k5, k6, kf⟩ := seven_cells m0; obtain ⟨r0, r1, r2, r3, r4, r5, r6, rf⟩ := seven_cells m1; have k7 := m2 _ _ _ q4; have HOWN := Lib.hid hown; have HB9 := Lib.hid m3; have HM1 := Lib.hid m1; clear hown hgrow m0 m1 m2 m3))
          all_goals
            obtain ⟨p1, p2, _⟩ := put7 HM1.out (.int .i64 8) (.int .i64 l) (.int .i64 0) (.slice A9 0 k9) (.slice none 0 0) (.slice none 0 0) (.slice none 0 0)
            obtain ⟨u0, u1, u2, u3, u4, u5, u6, _⟩ := seven_cells p1
            have hown := HOWN.out
            have END := Lib.hid (part_end (k := 8) (f := f) (a := a) (b := a) (m := 0) (by unfold RngI; omega) HRNG.out HRF.out (by omega) (by omega) (by rw [HNF.out]; omega) hown p2 (put7_below HB9.out (Nat.le_succ _) _ _ _ _ _ _ _))
            clear p1 p2 hown r0 r1 r2 r3 r4 r5 r6 rf
            go_wp2_with (fail)
            refine bodyPost_ret (res72 _ (w.heap.size + 1) _ rfl u0 u1 u2 u3 u4 u5 u6) rfl ?_
            exact END.out
        · go_enter Tryz.func72, Tryz.ntmps72
          go_upto_region 27 with (fail)
          go_region_held3 (fun w' => w'.cell? ⟨w.heap.size, 1, none⟩ = some (.int .i64 l) ∧ w'.cell? ⟨w.heap.size, 3, none⟩ = some (.slice (some ad) nf c3) ∧ w'.cell? ⟨w.heap.size, 4, none⟩ = some (.slice (some ⟨b4, o4, none⟩) ne c4) ∧ w'.cell? ⟨b4, o4 + (j + 1), none⟩ = some (.int .i64 a)) (first | go_keep | exact ⟨k1, k3, k4, k7⟩) ((refine step_append_own rfl (.tmp 94) (.tmp 103) 24 rfl (w.heap.size + 2) 146 i0 (.float .f64 0) 1 8 Tryz.underlying24 hi0 hz0 hz1 hz2 rfl (by decide) (.slice (some ⟨w.heap.size + 1 + 1, 0, none⟩) 0 0) 0 [] rfl (own3 w _ _) (ad.add a) 0 (c3 - a) [] (by simp [Act.eval, Act.put, hq]) rfl (fun j u h => nomatch h) (fun u h => nomatch h) (by unfold maxLen; omega) (by omega) (size3 w _ _ _) ?_; intro A9 k9 w9 hown hgrow; obtain ⟨m0, m1, m2, m3⟩ := grown_heap hgrow; obtain ⟨k0, k1, k2, k3, k4, k5, k6, kf⟩ := seven_cells m0; obtain ⟨r0, r1, r2, r3, r4, r5, r6, rf⟩ := seven_cells m1; have k7 := m2 _ _ _ q4; have HOWN := Lib.hid hown; have HB9 := Lib.hid m3; have HM1 := Lib.hid m1; clear hown hgrow m0 m1 m2 m3))
          all_goals
            obtain ⟨p1, p2, _⟩ := put7 HM1.out (.int .i64 8) (.int .i64 l) (.int .i64 0) (.slice A9 0 k9) (.slice none 0 0) (.slice none 0 0) (.slice none 0 0)
            obtain ⟨u0, u1, u2, u3, u4, u5, u6, _⟩ := seven_cells p1
            have hown := HOWN.out
            have END := Lib.hid (part_end (k := 8) (f := f) (a := a) (b := a) (m := 0) (by unfold RngI; omega) HRNG.out HRF.out (by omega) (by omega) (by rw [HNF.out]; omega) hown p2 (put7_below HB9.out (Nat.le_succ _) _ _ _ _ _ _ _))
            clear p1 p2 hown r0 r1 r2 r3 r4 r5 r6 rf
            go_wp2_with (fail)
            refine bodyPost_ret (res72 _ (w.heap.size + 1) _ rfl u0 u1 u2 u3 u4 u5 u6) rfl ?_
            exact END.out
    obtain ⟨b3, o3, rfl, _, _⟩ := HFL.out.at_ (i := 0) (by omega)
    have hnc : ¬ c3 = a := by omega
    go_enter Tryz.func72, Tryz.ntmps72
    go_upto_region 27 with (fail)
    go_region_held3 (fun w' => w'.cell? ⟨w.heap.size, 1, none⟩ = some (.int .i64 l) ∧ w'.cell? ⟨w.heap.size, 3, none⟩ = some (.slice (some ⟨b3, o3, none⟩) nf c3) ∧ w'.cell? ⟨w.heap.size, 4, none⟩ = some (.slice (some ⟨b4, o4, none⟩) ne c4) ∧ w'.cell? ⟨b4, o4 + (j + 1), none⟩ = some (.int .i64 b)) (first | go_keep | exact ⟨k1, k3, k4, k7⟩) ((refine step_append_own rfl (.tmp 94) (.tmp 103) 24 rfl (w.heap.size + 2) 146 i0 (.float .f64 0) 1 8 Tryz.underlying24 hi0 hz0 hz1 hz2 rfl (by decide) (.slice (some ⟨w.heap.size + 1 + 1, 0, none⟩) 0 0) 0 [] rfl (own3 w _ _) ⟨b3, o3 + a, none⟩ (b - a) (c3 - a) (segC f a (b - a)) (by simp [Act.eval, Act.put, hnc]) (by rw [segC_length, Nat.mul_one]) (segC_cells (HFL.out.below (Nat.le_refl _) (bel3 w _ _ _)) (by omega)) (segC_one _ _ _) (by unfold maxLen; omega) (by omega) (size3 w _ _ _) ?_; intro A9 k9 w9 hown hgrow; obtain ⟨m0, m1, m2, m3⟩ := grown_heap hgrow; obtain ⟨k0, k1, k2, k3, k4, k5, k6, kf⟩ := seven_cells m0; obtain ⟨r0, r1, r2, r3, r4, r5, r6, rf⟩ := seven_cells m1; have k7 := m2 _ _ _ q4; have HOWN := Lib.hid hown; have HB9 := Lib.hid m3; have HM1 := Lib.hid m1; clear hown hgrow m0 m1 m2 m3))
    all_goals
      obtain ⟨p1, p2, _⟩ := put7 HM1.out (.int .i64 8) (.int .i64 l) (.int .i64 0) (.slice A9 (b - a) k9) (.slice none 0 0) (.slice none 0 0) (.slice none 0 0)
      obtain ⟨u0, u1, u2, u3, u4, u5, u6, _⟩ := seven_cells p1
      have hown := HOWN.out
      rw [Nat.zero_add, List.nil_append] at hown
      have END := Lib.hid (part_end (k := 8) (by unfold RngI; omega) HRNG.out HRF.out rfl hab (by rw [HNF.out]; exact hbf) hown p2 (put7_below HB9.out (Nat.le_succ _) _ _ _ _ _ _ _))
      clear p1 p2 hown r0 r1 r2 r3 r4 r5 r6 rf
      go_wp2_with (fail)
      refine bodyPost_ret (res72 _ (w.heap.size + 1) _ rfl u0 u1 u2 u3 u4 u5 u6) rfl ?_
      exact END.out
end Go.Proofs.YtokmamakmaojpaaGreatDoor

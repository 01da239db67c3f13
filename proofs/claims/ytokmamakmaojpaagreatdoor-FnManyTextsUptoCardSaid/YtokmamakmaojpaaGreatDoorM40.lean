/-
  F0. From the card's reading of the argument to the geometries in memory.
  F1. From the card's reading of the argument to the geometries in memory: rows and geometries.
  F2. From the card's reading of the argument to the geometries in memory: geometries.
  F3. From the card's reading of the argument to the geometries in memory: the tree.
-/
import Derived.Test.YtokmamakmaojpaaGreatDoorM17
import Derived.Test.YtokmamakmaojpaaGreatDoorRows
import Derived.Test.YtokmamakmaojpaaGreatDoorM12
import Derived.Deep.Slices
import Derived.Laws.Cover2
set_option linter.unusedVariables false
set_option linter.unusedSimpArgs false
/- F0. -/
namespace Go.Proofs.YtokmamakmaojpaaGreatDoor
open Go.RowKit Go.Deep Go.ChangeShapes

section
variable {H : Type} {enc : TypeId × Value → H} {w : World} {spare : Nat → Bool} {held : Bool}

theorem row_of_trod {t e : TypeId} {fuel sz : Nat} {v : Value} {x : DataW H × List MemPlace} (ht : Tryz.prog.underlying t = some (.slice e)) (hsz : Tryz.prog.cellsOf e = sz) (h0 : 0 < sz) (h : DataW.trod enc Tryz.prog w 0 spare held fuel t [v] = some x) :
    ∃ (n m : Nat) (kc : Nat → Nat → Value) (D : Nat → DataW H), RowAt w v n sz kc ∧ m < fuel ∧ (∀ i, i < n → ∃ Pl, DataW.trod enc Tryz.prog w 0 spare held m e ((List.range sz).map (kc i)) = some (D i, Pl)) ∧ Rows.uptoBulkAll ((List.range n).map D) + 1 ≤ Rows.uptoBulk x.1 := by
  rcases DataW.trod_slice ht h with ⟨h1, h2⟩ | ⟨a, len, cap, elems, rest, m, hfuel, h1, rfl, hb, hl, hm, hlen, hel, _, _⟩
  · injection h1 with h1 _
    subst h1 h2
    exact ⟨0, fuel - 1, fun _ _ => undef, fun _ => .nil, RowAt.nil _ _ _, by
      cases fuel with
      | zero => simp [DataW.trod] at h
      | succ n => omega, fun i hi => absurd hi (by omega), by simp [Rows.uptoBulkAll, Rows.uptoBulk]⟩
  · injection h1 with h1 _
    subst h1
    rw [hsz] at hel
    have hex : ∀ i, i < len → ∃ cs', w.cells? 0 (a.add (i * sz)) sz = some cs' ∧ DataW.trod enc Tryz.prog w 0 spare held m e cs' = some (elems.getD i (.nil, [])) := fun i hi => by
      have h2 := hel i hi
      rw [List.getElem?_eq_getElem (by omega)] at h2
      obtain ⟨cs', h3, h4⟩ := Option.bind_eq_some_iff.1 h2
      refine ⟨cs', h3, ?_⟩
      rw [h4, List.getD_eq_getElem?_getD, List.getElem?_eq_getElem (by omega)]
      rfl
    obtain ⟨CS, hCS⟩ := choose_lt (α := List Value) hex
    have hcs : ∀ i, i < len → (CS i).length = sz ∧ ∀ j, j < sz → w.cell? ((a.add (i * sz)).add j) = some ((CS i).getD j undef) := fun i hi => by
      obtain ⟨_, h5, h6⟩ := World.cells?_some (hCS i hi).1
      refine ⟨h5, fun j hj => ?_⟩
      rw [h6 j hj, List.getD_eq_getElem?_getD, List.getElem?_eq_getElem (by omega)]
      rfl
    refine ⟨len, m, fun i j => (CS i).getD j undef, fun i => (elems.getD i (.nil, [])).1, ⟨some a, cap, rfl, hl, hm, fun hn => ?_⟩, by omega, fun i hi => ⟨(elems.getD i (.nil, [])).2, ?_⟩, ?_⟩
    · have h7 := (hcs 0 hn).2 0 h0
      rw [Nat.zero_mul] at h7
      have h8 : a.spot = none := by
        have := World.cell?_spot h7
        simpa [Addr.add] using this
      obtain ⟨b, o, sp⟩ := a
      simp at h8
      subst h8
      have h9 := World.block_lt_of_cell? w _ h7
      refine ⟨b, o, rfl, by simpa [Addr.add] using h9, fun i j hi hj => ?_⟩
      have := (hcs i hi).2 j hj
      rw [add_add] at this
      rw [← this]
      simp only [Addr.add]
      split
      · rename_i h10
        have h11 : i * sz = 0 ∧ j = 0 := by omega
        rw [h11.1, h11.2]
        rfl
      · rw [Nat.add_assoc]
    · have h10 : (List.range sz).map (fun j => (CS i).getD j undef) = CS i := by
        apply List.ext_getElem?
        intro k
        by_cases hk : k < sz
        · rw [List.getElem?_map, List.getElem?_range hk, List.getElem?_eq_getElem (by rw [(hcs i hi).1]; exact hk)]
          simp [List.getD_eq_getElem?_getD, List.getElem?_eq_getElem (show k < (CS i).length by rw [(hcs i hi).1]; exact hk)]
        · rw [List.getElem?_eq_none (by simp; omega), List.getElem?_eq_none (by rw [(hcs i hi).1]; omega)]
      rw [h10, (hCS i hi).2]
    · have h11 : (List.range len).map (fun i => (elems.getD i (.nil, [])).1) = elems.map (·.1) := by
        rw [map_by_index elems (.nil, []) (·.1), hlen]
      rw [h11]
      simp only [Rows.uptoBulk]
      omega
end
end Go.Proofs.YtokmamakmaojpaaGreatDoor

/- F1. -/
namespace Go.Proofs.YtokmamakmaojpaaGreatDoor
open Go.RowKit Go.Deep Go.ChangeShapes

theorem bulk_one {H : Type} (d : DataW H) : 1 ≤ Rows.uptoBulk d := by
  cases d with
  | lit l => cases l <;> simp [Rows.uptoBulk]
  | nil => simp [Rows.uptoBulk]
  | ptr d => simp [Rows.uptoBulk]
  | slice elems spare => simp [Rows.uptoBulk]
  | agg parts => simp [Rows.uptoBulk]
  | iface t d => simp [Rows.uptoBulk]
  | map entries => simp [Rows.uptoBulk]
  | held h => simp [Rows.uptoBulk]
theorem bulk_len {H : Type} (l : List (DataW H)) : l.length ≤ Rows.uptoBulkAll l := by
  induction l with
  | nil => simp [Rows.uptoBulkAll]
  | cons x r ih => have := bulk_one x; simp only [Rows.uptoBulkAll, List.length_cons]; omega

section
variable {H : Type} {enc : TypeId × Value → H} {w : World} {spare : Nat → Bool} {held : Bool}
theorem trod_float {m : Nat} {v : Value} {x : DataW H × List MemPlace} (h : DataW.trod enc Tryz.prog w 0 spare held m 146 [v] = some x) : ∃ b, v = .float .f64 b ∧ b < 18446744073709551616 := by
  cases m with
  | zero => simp [DataW.trod] at h
  | succ n =>
    unfold DataW.trod at h
    rw [show Tryz.prog.underlying 146 = some (.float .f64) from Tryz.underlying146] at h
    cases v
    case float k b =>
      simp only at h
      split at h
      · rename_i h1
        obtain ⟨rfl, h2⟩ := h1
        refine ⟨b, rfl, ?_⟩
        have h3 : decide (b < 2 ^ 64) = true := h2
        have := of_decide_eq_true h3
        omega
      · exact absurd h (by simp)
    all_goals simp at h
theorem trod_int3 {m : Nat} {v : Value} {x : DataW H × List MemPlace} (h : DataW.trod enc Tryz.prog w 0 spare held m 3 [v] = some x) : ∃ z, v = .int .i64 z ∧ RngI z := by
  obtain ⟨n, h1, _, h2⟩ := DataW.trod_int Tryz.underlying3 h
  injection h1 with h1 _
  refine ⟨n, h1, ?_⟩
  have h3 : IntKind.i64.min ≤ n ∧ n ≤ IntKind.i64.max := by
    have h4 : (decide (IntKind.i64.min ≤ n) && decide (n ≤ IntKind.i64.max)) = true := h2
    simpa using h4
  have e1 : IntKind.i64.min = -9223372036854775808 := by decide
  have e2 : IntKind.i64.max = 9223372036854775807 := by decide
  rw [e1, e2] at h3
  exact h3
theorem floats_of {fuel : Nat} {v : Value} {x : DataW H × List MemPlace} (h : DataW.trod enc Tryz.prog w 0 spare held fuel 24 [v] = some x) : ∃ f : List Nat, RowAt w v f.length 1 (fltC f) ∧ (∀ y ∈ f, y < 18446744073709551616) ∧ f.length + 1 ≤ Rows.uptoBulk x.1 := by
  obtain ⟨n, m, kc, D, hr, _, hel, hb⟩ := row_of_trod (sz := 1) Tryz.underlying24 (by kernel_rfl) (by omega) h
  obtain ⟨bf, hbf⟩ := choose_lt (α := Nat) (n := n) (p := fun i b => kc i 0 = .float .f64 b ∧ b < 18446744073709551616) (fun i hi => by
    obtain ⟨Pl, h1⟩ := hel i hi
    exact trod_float h1)
  have hl := bulk_len ((List.range n).map D)
  rw [List.length_map, List.length_range] at hl
  refine ⟨(List.range n).map bf, ?_, fun y hy => ?_, by rw [List.length_map, List.length_range]; omega⟩
  · rw [List.length_map, List.length_range]
    refine hr.congr fun i j hi hj => ?_
    obtain rfl : j = 0 := by omega
    rw [(hbf i hi).1, fltC, List.getD_eq_getElem?_getD, List.getElem?_map, List.getElem?_range hi]
    rfl
  · rw [List.mem_map] at hy
    obtain ⟨i, hi, rfl⟩ := hy
    exact (hbf i (List.mem_range.1 hi)).2
theorem ints_of {fuel : Nat} {v : Value} {x : DataW H × List MemPlace} (h : DataW.trod enc Tryz.prog w 0 spare held fuel 25 [v] = some x) : ∃ f : List Int, RowAt w v f.length 1 (intC f) ∧ (∀ y ∈ f, RngI y) ∧ f.length + 1 ≤ Rows.uptoBulk x.1 := by
  obtain ⟨n, m, kc, D, hr, _, hel, hb⟩ := row_of_trod (sz := 1) Tryz.underlying25 (by kernel_rfl) (by omega) h
  obtain ⟨bf, hbf⟩ := choose_lt (α := Int) (n := n) (p := fun i b => kc i 0 = .int .i64 b ∧ RngI b) (fun i hi => by
    obtain ⟨Pl, h1⟩ := hel i hi
    exact trod_int3 h1)
  have hl := bulk_len ((List.range n).map D)
  rw [List.length_map, List.length_range] at hl
  refine ⟨(List.range n).map bf, ?_, fun y hy => ?_, by rw [List.length_map, List.length_range]; omega⟩
  · rw [List.length_map, List.length_range]
    refine hr.congr fun i j hi hj => ?_
    obtain rfl : j = 0 := by omega
    rw [(hbf i hi).1, intC, List.getD_eq_getElem?_getD, List.getElem?_map, List.getElem?_range hi]
    rfl
  · rw [List.mem_map] at hy
    obtain ⟨i, hi, rfl⟩ := hy
    exact (hbf i (List.mem_range.1 hi)).2
end
end Go.Proofs.YtokmamakmaojpaaGreatDoor

/- F2. -/
namespace Go.Proofs.YtokmamakmaojpaaGreatDoor
open Go.RowKit Go.Deep Go.ChangeShapes

theorem range_map_len {α : Type} (f : Nat → α) (n : Nat) : ((List.range n).map f).length = n := by simp
theorem getD_range_map {α : Type} (f : Nat → α) (n i : Nat) (d : α) (h : i < n) : ((List.range n).map f).getD i d = f i := by
  rw [List.getD_eq_getElem?_getD, List.getElem?_map, List.getElem?_range h]
  rfl
section
variable {H : Type} {enc : TypeId × Value → H} {w : World} {spare : Nat → Bool} {held : Bool}
theorem rowsW_range (f : Nat → List Int) : ∀ n, rowsW ((List.range n).map f) = ((List.range n).map fun i => 1 + (f i).length).sum := fun n => by
  induction n with
  | zero => rfl
  | succ n ih =>
    have e : ∀ (a b : List (List Int)), rowsW (a ++ b) = rowsW a + rowsW b := fun a b => by
      induction a with
      | nil => simp [rowsW]
      | cons x r ih => simp only [List.cons_append, rowsW, ih]; omega
    rw [List.range_succ, List.map_append, List.map_append, e, ih, List.sum_append]
    simp [rowsW]
theorem bulk_range (D : Nat → DataW H) (g : Nat → Nat) (n : Nat) (h : ∀ i, i < n → g i ≤ Rows.uptoBulk (D i)) : ((List.range n).map g).sum ≤ Rows.uptoBulkAll ((List.range n).map D) := by
  have e : ∀ (a b : List (DataW H)), Rows.uptoBulkAll (a ++ b) = Rows.uptoBulkAll a + Rows.uptoBulkAll b := fun a b => by
    induction a with
    | nil => simp [Rows.uptoBulkAll]
    | cons x r ih => simp only [List.cons_append, Rows.uptoBulkAll, ih]; omega
  induction n with
  | zero => exact Nat.zero_le _
  | succ n ih =>
    have h1 := ih (fun i hi => h i (by omega))
    have h2 := h n (by omega)
    rw [List.range_succ, List.map_append, List.map_append, List.sum_append, e]
    simp [Rows.uptoBulkAll]
    omega
theorem intss_of {fuel : Nat} {v : Value} {x : DataW H × List MemPlace} (h : DataW.trod enc Tryz.prog w 0 spare held fuel 26 [v] = some x) :
    ∃ (es : List (List Int)) (ev : Nat → Value), RowAt w v es.length 1 (fun i _ => ev i) ∧ (∀ i, i < es.length → RowAt w (ev i) (es.getD i []).length 1 (intC (es.getD i []))) ∧ (∀ l ∈ es, ∀ e ∈ l, RngI e) ∧ rowsW es + 1 ≤ Rows.uptoBulk x.1 := by
  obtain ⟨n, m, kc, D, hr, _, hel, hb⟩ := row_of_trod (sz := 1) Tryz.underlying26 (by kernel_rfl) (by omega) h
  obtain ⟨rf, hrf⟩ := choose_lt (α := List Int) (n := n) (p := fun i l => RowAt w (kc i 0) l.length 1 (intC l) ∧ (∀ y ∈ l, RngI y) ∧ l.length + 1 ≤ Rows.uptoBulk (D i)) (fun i hi => by
    obtain ⟨Pl, h1⟩ := hel i hi
    obtain ⟨l, h2, h3, h4⟩ := ints_of h1
    exact ⟨l, h2, h3, h4⟩)
  refine ⟨(List.range n).map rf, fun i => kc i 0, ?_, fun i hi => ?_, fun l hl => ?_, ?_⟩
  · rw [range_map_len]
    exact hr.congr fun i j hi hj => by obtain rfl : j = 0 := by omega
                                       rfl
  · rw [range_map_len] at hi
    rw [getD_range_map _ _ _ _ hi]
    exact (hrf i hi).1
  · rw [List.mem_map] at hl
    obtain ⟨i, hi, rfl⟩ := hl
    exact (hrf i (List.mem_range.1 hi)).2.1
  · have h1 := bulk_range D (fun i => 1 + (rf i).length) n (fun i hi => by have := (hrf i hi).2.2; omega)
    rw [rowsW_range]
    omega
end
end Go.Proofs.YtokmamakmaojpaaGreatDoor

/- F3. -/
namespace Go.Proofs.YtokmamakmaojpaaGreatDoor
open Go.RowKit Go.Deep Go.ChangeShapes

section
variable {H : Type} {enc : TypeId × Value → H} {w : World} {spare : Nat → Bool} {held : Bool}
theorem wgts_range (f : Nat → G) : ∀ n, wgts ((List.range n).map f) = ((List.range n).map fun i => wgt (f i)).sum := fun n => by
  induction n with
  | zero => rfl
  | succ n ih =>
    have e : ∀ (a b : List G), wgts (a ++ b) = wgts a + wgts b := fun a b => by
      induction a with
      | nil => simp [wgts]
      | cons x r ih => simp only [List.cons_append, wgts, ih]; omega
    rw [List.range_succ, List.map_append, List.map_append, e, ih, List.sum_append]
    simp [wgts]
theorem geom_of : ∀ (fuel : Nat) (c : Nat → Value) (x : DataW H × List MemPlace), DataW.trod enc Tryz.prog w 0 spare held fuel 28 ((List.range 7).map c) = some x → ∃ g, GAt w c g ∧ wgt g ≤ Rows.uptoBulk x.1 := by
  intro fuel
  induction fuel using Nat.strongRecOn with
  | _ fuel ih =>
    intro c x h
    obtain ⟨xs, n, hfu, rfl, _, hlen, hf⟩ := DataW.trod_struct Tryz.underlying28 h
    have c3 : Tryz.prog.cellsOf 3 = 1 := by kernel_rfl
    have c24 : Tryz.prog.cellsOf 24 = 1 := by kernel_rfl
    have c25 : Tryz.prog.cellsOf 25 = 1 := by kernel_rfl
    have c26 : Tryz.prog.cellsOf 26 = 1 := by kernel_rfl
    have c22 : Tryz.prog.cellsOf 22 = 1 := by kernel_rfl
    have c28 : Tryz.prog.cellsOf 28 = 7 := by kernel_rfl
    match xs, hlen with
    | [x0, x1, x2, x3, x4, x5, x6], _ =>
      have f0 : DataW.trod enc Tryz.prog w 0 spare held n 3 ((((List.range 7).map c).drop 0).take (Tryz.prog.cellsOf 3)) = some x0 := hf 0 _ rfl
      have f1 : DataW.trod enc Tryz.prog w 0 spare held n 3 ((((List.range 7).map c).drop 1).take (Tryz.prog.cellsOf 3)) = some x1 := hf 1 _ rfl
      have f2 : DataW.trod enc Tryz.prog w 0 spare held n 3 ((((List.range 7).map c).drop 2).take (Tryz.prog.cellsOf 3)) = some x2 := hf 2 _ rfl
      have f3 : DataW.trod enc Tryz.prog w 0 spare held n 24 ((((List.range 7).map c).drop 3).take (Tryz.prog.cellsOf 24)) = some x3 := hf 3 _ rfl
      have f4 : DataW.trod enc Tryz.prog w 0 spare held n 25 ((((List.range 7).map c).drop 4).take (Tryz.prog.cellsOf 25)) = some x4 := hf 4 _ rfl
      have f5 : DataW.trod enc Tryz.prog w 0 spare held n 26 ((((List.range 7).map c).drop 5).take (Tryz.prog.cellsOf 26)) = some x5 := hf 5 _ rfl
      have f6 : DataW.trod enc Tryz.prog w 0 spare held n 22 ((((List.range 7).map c).drop 6).take (Tryz.prog.cellsOf 22)) = some x6 := hf 6 _ rfl
      rw [c3] at f0 f1 f2
      rw [c24] at f3
      rw [c25] at f4
      rw [c26] at f5
      rw [c22] at f6
      obtain ⟨k, e0, r0⟩ := trod_int3 (v := c 0) (x := x0) f0
      obtain ⟨l, e1, r1⟩ := trod_int3 (v := c 1) (x := x1) f1
      obtain ⟨s, e2, r2⟩ := trod_int3 (v := c 2) (x := x2) f2
      obtain ⟨f, hr3, rr3, hb3⟩ := floats_of (v := c 3) (x := x3) f3
      obtain ⟨e, hr4, rr4, hb4⟩ := ints_of (v := c 4) (x := x4) f4
      obtain ⟨es, ev, hr5, hr5', rr5, hb5⟩ := intss_of (v := c 5) (x := x5) f5
      obtain ⟨nk, m, kc, D, hr6, hm, hel, hb6⟩ := row_of_trod (sz := 7) (v := c 6) (x := x6) Tryz.underlying22 c28 (by omega) f6
      obtain ⟨kg, hkg⟩ := choose_lt (α := G) (n := nk) (p := fun i g => GAt w (kc i) g ∧ wgt g ≤ Rows.uptoBulk (D i)) (fun i hi => by
        obtain ⟨Pl, h1⟩ := hel i hi
        exact ih m (by omega) (kc i) (D i, Pl) h1)
      refine ⟨.mk k l s f e es ((List.range nk).map kg), .mk k l s f e es _ c ev kc ⟨r0, r1, r2, rr3, rr4, rr5⟩ e0 e1 e2 hr3 hr4 hr5 hr5' (by rw [range_map_len]; exact hr6) (fun i hi => ?_), ?_⟩
      · have hi' : i < nk := by rw [range_map_len] at hi; exact hi
        rw [List.getElem_map, List.getElem_range]
        exact (hkg i hi').1
      · have h1 := bulk_range D (fun i => wgt (kg i)) nk (fun i hi => (hkg i hi).2)
        have b0 := bulk_one x0.1
        rw [wgt, wgts_range]
        simp only [Rows.uptoBulk, Rows.uptoBulkAll, List.map_cons, List.map_nil]
        omega
/-- The law's argument. -/
theorem all_of {fuel : Nat} {v : Value} {x : DataW H × List MemPlace} (h : DataW.trod enc Tryz.prog w 0 spare held fuel 22 [v] = some x) : ∃ l : List G, AllAt w v l ∧ wgts l + 1 ≤ Rows.uptoBulk x.1 := by
  obtain ⟨nk, m, kc, D, hr6, hm, hel, hb6⟩ := row_of_trod (sz := 7) Tryz.underlying22 (by kernel_rfl) (by omega) h
  obtain ⟨kg, hkg⟩ := choose_lt (α := G) (n := nk) (p := fun i g => GAt w (kc i) g ∧ wgt g ≤ Rows.uptoBulk (D i)) (fun i hi => by
    obtain ⟨Pl, h1⟩ := hel i hi
    exact geom_of m (kc i) (D i, Pl) h1)
  refine ⟨(List.range nk).map kg, ⟨kc, by rw [range_map_len]; exact hr6, fun i hi => ?_⟩, ?_⟩
  · have hi' : i < nk := by rw [range_map_len] at hi; exact hi
    rw [List.getElem_map, List.getElem_range]
    exact (hkg i hi').1
  · have h1 := bulk_range D (fun i => wgt (kg i)) nk (fun i hi => (hkg i hi).2)
    rw [wgts_range]
    omega
end
end Go.Proofs.YtokmamakmaojpaaGreatDoor

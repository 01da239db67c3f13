/-
  F4. From the row's list to the tables in memory.
  F5. From the row's list to the tables in memory: all of them.
-/
import Derived.Test.YtokmamakmaojpaaGreatDoorM40
import Derived.OpenShut
import Derived.Lib.LaidTab
set_option linter.unusedVariables false
set_option linter.unusedSimpArgs false
set_option linter.unnecessarySimpa false
/- F4. -/
namespace Go.Proofs.YtokmamakmaojpaaGreatDoor
open Go.RowKit Go.Deep Go.ChangeShapes

theorem laidVars_mem {P : Program} {w : World} : ∀ {l : List (String × DataW Unit)} {ps : List MemPlace}, DataW.LaidVars P w l ps → ∀ n d, (n, d) ∈ l →
    ∃ g t cs fuel p, P.globalNamed n = some g ∧ (P.globals[g]?).map (·.type) = some t ∧ w.var? P n = some cs ∧ DataW.trod (fun _ => ()) P w 0 (fun _ => true) false fuel t cs.toList = some (d, p)
  | [], _, _, n, d, h => nomatch h
  | (n', d') :: r, _, ⟨g, t, cs, fuel, p, q, h1, h2, h3, h4, h5, _⟩, n, d, h => by
    cases h with
    | head => exact ⟨g, t, cs, fuel, p, h1, h2, h3, h4⟩
    | tail _ h => exact laidVars_mem h5 n d h
theorem g0 : Tryz.prog.globalNamed "internal/strconv.optimize" = some 0 := by kernel_rfl
theorem g1 : Tryz.prog.globalNamed "internal/strconv.uint64pow10" = some 1 := by kernel_rfl
theorem g2 : Tryz.prog.globalNamed "internal/strconv.pow10Tab" = some 2 := by kernel_rfl
theorem g3 : Tryz.prog.globalNamed "internal/strconv.leftcheats" = some 3 := by kernel_rfl
theorem gt0 : (Tryz.prog.globals[0]?).map (·.type) = some 4 := by kernel_rfl
theorem gt1 : (Tryz.prog.globals[1]?).map (·.type) = some 197 := by kernel_rfl
theorem gt2 : (Tryz.prog.globals[2]?).map (·.type) = some 206 := by kernel_rfl
theorem gt3 : (Tryz.prog.globals[3]?).map (·.type) = some 213 := by kernel_rfl
theorem cs205 : Tryz.prog.cellsOf 205 = 2 := by kernel_rfl
theorem cs206 : Tryz.prog.cellsOf 206 = 1392 := by kernel_rfl
theorem cs212 : Tryz.prog.cellsOf 212 = 2 := by kernel_rfl
theorem cs164 : Tryz.prog.cellsOf 164 = 1 := by kernel_rfl
theorem cs9 : Tryz.prog.cellsOf 9 = 1 := by kernel_rfl
theorem cs3' : Tryz.prog.cellsOf 3 = 1 := by kernel_rfl
section
variable {H : Type} {enc : TypeId × Value → H} {w : World} {base : Nat} {spare : Nat → Bool} {held : Bool}
theorem pow_row {m : Nat} {cs : List Value} {a b : Int} {p : List MemPlace} (h : DataW.trod enc Tryz.prog w base spare held m 205 cs = some (.agg [.lit (.int .u64 a), .lit (.int .u64 b)], p)) : cs[0]? = some (.int .u64 a) ∧ cs[1]? = some (.int .u64 b) := by
  obtain ⟨xs, n, _, hx, hl, hlen, hf⟩ := DataW.trod_struct Tryz.underlying205 h
  match xs, hlen with
  | [x0, x1], _ =>
    have f0 : DataW.trod enc Tryz.prog w base spare held n 164 ((cs.drop 0).take (Tryz.prog.cellsOf 164)) = some x0 := hf 0 _ rfl
    have f1 : DataW.trod enc Tryz.prog w base spare held n 164 ((cs.drop 1).take (Tryz.prog.cellsOf 164)) = some x1 := hf 1 _ rfl
    rw [cs164] at f0 f1
    obtain ⟨z0, h0, rfl, _⟩ := DataW.trod_int Tryz.underlying164 f0
    obtain ⟨z1, h1, rfl, _⟩ := DataW.trod_int Tryz.underlying164 f1
    simp at hx
    obtain ⟨⟨rfl, rfl⟩, _⟩ := hx
    refine ⟨?_, ?_⟩
    · have := congrArg (·[0]?) h0
      simpa [List.getElem?_take] using this
    · have := congrArg (·[0]?) h1
      simpa [List.getElem?_take, List.getElem?_drop] using this
theorem cheat_row_at {m : Nat} {cs : List Value} {a : Int} {b : List UInt8} {p : List MemPlace} (h : DataW.trod enc Tryz.prog w base spare held m 212 cs = some (.agg [.lit (.int .i64 a), .lit (.string b)], p)) : cs[0]? = some (.int .i64 a) ∧ cs[1]? = some (.string ⟨b.toArray⟩) := by
  obtain ⟨xs, n, _, hx, hl, hlen, hf⟩ := DataW.trod_struct Tryz.underlying212 h
  match xs, hlen with
  | [x0, x1], _ =>
    have f0 : DataW.trod enc Tryz.prog w base spare held n 3 ((cs.drop 0).take (Tryz.prog.cellsOf 3)) = some x0 := hf 0 _ rfl
    have f1 : DataW.trod enc Tryz.prog w base spare held n 9 ((cs.drop 1).take (Tryz.prog.cellsOf 9)) = some x1 := hf 1 _ rfl
    rw [cs3'] at f0
    rw [cs9] at f1
    obtain ⟨z0, h0, rfl, _⟩ := DataW.trod_int Tryz.underlying3 f0
    obtain ⟨z1, h1, rfl, _⟩ := DataW.trod_string Tryz.underlying9 f1
    simp at hx
    obtain ⟨⟨rfl, rfl⟩, _⟩ := hx
    refine ⟨?_, ?_⟩
    · have := congrArg (·[0]?) h0
      simpa [List.getElem?_take] using this
    · have := congrArg (·[0]?) h1
      simpa [List.getElem?_take, List.getElem?_drop] using this
end
theorem pow_tab {w : World} {spare : Nat → Bool} {held : Bool} {fuel : Nat} {cs : List Value} {p : List MemPlace} (h : DataW.trod (fun _ => ()) Tryz.prog w 0 spare held fuel 206 cs = some (Go.Pinned.pow10Tab, p)) :
    ∀ i, i < 696 → cs[i * 2]? = some (.int .u64 (powHi i)) ∧ cs[i * 2 + 1]? = some (.int .u64 (powLo i)) := by
  obtain ⟨xs, m, _, hx, hl, hlen, hel⟩ := DataW.trod_array Tryz.underlying206 h
  have hx1 : (Go.Pinned.pow10Rows.map fun x => (.agg [.lit (.int .u64 x.1), .lit (.int .u64 x.2)] : DataW Unit)) = xs.map (·.1) := by
    have := congrArg Prod.fst hx
    unfold Go.Pinned.pow10Tab at this
    injection this
  intro i hi
  have h1 := hel i hi
  rw [cs205] at h1
  have hxi : i < xs.length := by omega
  rw [List.getElem?_eq_getElem hxi] at h1
  have h2 := congrArg (·[i]?) hx1
  simp only [List.getElem?_map, List.getElem?_eq_getElem hxi, Option.map_some] at h2
  have hri : i < Go.Pinned.pow10Rows.length := by
    have := congrArg List.length hx1
    rw [List.length_map, List.length_map] at this
    omega
  rw [List.getElem?_eq_getElem hri] at h2
  simp only [Option.map_some, Option.some.injEq] at h2
  have h3 : DataW.trod (fun _ => ()) Tryz.prog w 0 spare held m 205 ((cs.drop (i * 2)).take 2) = some (.agg [.lit (.int .u64 (Go.Pinned.pow10Rows[i]).1), .lit (.int .u64 (Go.Pinned.pow10Rows[i]).2)], (xs[i]).2) := by
    rw [h1, h2]
  obtain ⟨q0, q1⟩ := pow_row h3
  have e : Go.Pinned.pow10Rows.getD i (0, 0) = Go.Pinned.pow10Rows[i] := by
    rw [List.getD_eq_getElem?_getD, List.getElem?_eq_getElem hri]
    rfl
  unfold powHi powLo
  rw [e]
  refine ⟨?_, ?_⟩
  · simpa [List.getElem?_take, List.getElem?_drop] using q0
  · simpa [List.getElem?_take, List.getElem?_drop] using q1
theorem cheat_tab {w : World} {spare : Nat → Bool} {held : Bool} {fuel : Nat} {cs : List Value} {p : List MemPlace} (hsp : ∀ b, spare b = true) (h : DataW.trod (fun _ => ()) Tryz.prog w 0 spare held fuel 213 cs = some (Go.Pinned.leftcheats, p)) :
    ∃ b o, b < w.heap.size ∧ cs = [.slice (some ⟨b, o, none⟩) 61 61] ∧ (∀ k, k < 61 → w.cell? ⟨b, o + k * 2, none⟩ = some (.int .i64 (cheatD k))) ∧ ∀ k, k < 61 → w.cell? ⟨b, o + k * 2 + 1, none⟩ = some (.string ⟨(cheatS k).toArray⟩) := by
  have hn : Go.Pinned.cheatRows.length = 61 := by decide
  rcases DataW.trod_slice Tryz.underlying213 h with ⟨_, h2⟩ | ⟨a, len, cap, elems, rest, m, _, rfl, hx, _, hl, _, hlen, hel, hr, _⟩
  · exact absurd (congrArg Prod.fst h2) (by simp [Go.Pinned.leftcheats])
  · have hx1 := congrArg Prod.fst hx
    unfold Go.Pinned.leftcheats at hx1
    injection hx1 with hx1 hx2
    have hl61 : len = 61 := by
      have := congrArg List.length hx1
      rw [List.length_map, List.length_map, hn] at this
      omega
    have hc61 : cap = 61 := by
      have h3 := (hr (hsp _)).1
      have := congrArg List.length hx2
      rw [List.length_map] at this
      simp at this
      omega
    subst hl61 hc61
    have key : ∀ k, k < 61 → w.cell? (a.add (k * 2)) = some (.int .i64 (cheatD k)) ∧ w.cell? ((a.add (k * 2)).add 1) = some (.string ⟨(cheatS k).toArray⟩) := fun k hk => by
      have h1 := hel k hk
      rw [cs212] at h1
      have hki : k < elems.length := by omega
      rw [List.getElem?_eq_getElem hki] at h1
      obtain ⟨cs', h3, h4⟩ := Option.bind_eq_some_iff.1 h1
      obtain ⟨_, h5, h6⟩ := World.cells?_some h3
      have h2 := congrArg (·[k]?) hx1
      have hri : k < Go.Pinned.cheatRows.length := by omega
      simp only [List.getElem?_map, List.getElem?_eq_getElem hki, List.getElem?_eq_getElem hri, Option.map_some, Option.some.injEq] at h2
      have h7 : DataW.trod (fun _ => ()) Tryz.prog w 0 spare held m 212 cs' = some (.agg [.lit (.int .i64 (Go.Pinned.cheatRows[k]).1), .lit (.string (Go.Pinned.cheatRows[k]).2)], (elems[k]).2) := by
        rw [h4, h2]
      obtain ⟨q0, q1⟩ := cheat_row_at h7
      have e : Go.Pinned.cheatRows.getD k (0, []) = Go.Pinned.cheatRows[k] := by
        rw [List.getD_eq_getElem?_getD, List.getElem?_eq_getElem hri]
        rfl
      have z0 := h6 0 (by omega)
      have z1 := h6 1 (by omega)
      rw [q0] at z0
      rw [q1] at z1
      unfold cheatD cheatS
      rw [e]
      refine ⟨?_, z1⟩
      have ea : (a.add (k * 2)).add 0 = a.add (k * 2) := by simp [Addr.add]
      rw [ea] at z0
      exact z0
    have ha := (key 0 (by omega)).1
    have hsp2 : a.spot = none := by
      have := World.cell?_spot ha
      simpa [Addr.add] using this
    obtain ⟨b, o, sp⟩ := a
    simp at hsp2
    subst hsp2
    have hlt := World.block_lt_of_cell? w _ ha
    refine ⟨b, o, by simpa [Addr.add] using hlt, rfl, fun k hk => ?_, fun k hk => ?_⟩
    · have := (key k hk).1
      rw [← this]
      simp only [Addr.add]
      split
      · rename_i h0
        rw [h0]
        rfl
      · rfl
    · have := (key k hk).2
      rw [add_add] at this
      rw [← this]
      simp only [Addr.add]
      split
      · rename_i h0
        omega
      · rfl
end Go.Proofs.YtokmamakmaojpaaGreatDoor

/- F5. -/
namespace Go.Proofs.YtokmamakmaojpaaGreatDoor
open Go.RowKit Go.Deep Go.ChangeShapes

theorem g4 : (Tryz.prog.globalNamed "math/bits.deBruijn32tab" = some 4 ∧ Tryz.prog.globalNamed "math/bits.deBruijn64tab" = some 5) ∨ (Tryz.prog.globalNamed "math/bits.deBruijn32tab" = some 5 ∧ Tryz.prog.globalNamed "math/bits.deBruijn64tab" = some 4) := by
  first
  | exact Or.inl ⟨by kernel_rfl, by kernel_rfl⟩
  | exact Or.inr ⟨by kernel_rfl, by kernel_rfl⟩
theorem lt_of_var {P : Program} {w : World} {n : String} {g : Nat} {cs : Array Value} (hg : P.globalNamed n = some g) (h : w.var? P n = some cs) : g < w.heap.size := by
  unfold World.var? at h
  rw [hg] at h
  simp only [Option.bind_some] at h
  by_cases hl : g < w.heap.size
  · exact hl
  · rw [Array.getElem?_eq_none (by omega)] at h
    cases h
theorem cs197 : Tryz.prog.cellsOf 197 = 20 := by kernel_rfl
theorem ten_eq : (Rows.laid_internal_strconv_uint64pow10 : DataW Unit) = Lib.tabData .u64 Lib.pow10Tab := by
  first
  | rfl
  | kernel_rfl
theorem tabs_of {W : World} (h : laidMetH Tryz.prog Rows.fnManyTextsUptoRow.laid W) : Tabs W := by
  have h' : laidMet Tryz.prog Rows.fnManyTextsUptoRow.laid W := h
  obtain ⟨ps, hv, _⟩ := h'
  have mem := laidVars_mem hv
  have mz : ∀ n d, (n, d) ∈ Rows.fnManyTextsUptoRow.laid → ∀ g, Tryz.prog.globalNamed n = some g → g < W.heap.size := fun n d hm g hg => by
    obtain ⟨g', t, cs, fuel, p, q1, q2, q3, q4⟩ := mem n d hm
    exact lt_of_var hg q3
  have m32 := mz "math/bits.deBruijn32tab" Rows.laid_math_bits_deBruijn32tab (by simp [Rows.fnManyTextsUptoRow])
  have m64 := mz "math/bits.deBruijn64tab" Rows.laid_math_bits_deBruijn64tab (by simp [Rows.fnManyTextsUptoRow])
  have hsz : 6 ≤ W.heap.size := by
    rcases g4 with ⟨e1, e2⟩ | ⟨e1, e2⟩
    · exact m64 5 e2
    · exact m32 5 e1
  obtain ⟨ga, ta, ca, fa, pa, a1, a2, a3, a4⟩ := mem "internal/strconv.optimize" Rows.laid_internal_strconv_optimize (by simp [Rows.fnManyTextsUptoRow])
  obtain ⟨gb, tb, cb, fb, pb, b1, b2, b3, b4⟩ := mem "internal/strconv.uint64pow10" Rows.laid_internal_strconv_uint64pow10 (by simp [Rows.fnManyTextsUptoRow])
  obtain ⟨gc, tc, cc, fc, pc, c1, c2, c3, c4⟩ := mem "internal/strconv.pow10Tab" Rows.laid_internal_strconv_pow10Tab (by simp [Rows.fnManyTextsUptoRow])
  obtain ⟨gd, td, cd, fd, pd, d1, d2, d3, d4⟩ := mem "internal/strconv.leftcheats" Rows.laid_internal_strconv_leftcheats (by simp [Rows.fnManyTextsUptoRow])
  obtain rfl := Option.some.inj (g0.symm.trans a1)
  obtain rfl := Option.some.inj (g1.symm.trans b1)
  obtain rfl := Option.some.inj (g2.symm.trans c1)
  obtain rfl := Option.some.inj (g3.symm.trans d1)
  obtain rfl := Option.some.inj (gt0.symm.trans a2)
  obtain rfl := Option.some.inj (gt1.symm.trans b2)
  obtain rfl := Option.some.inj (gt2.symm.trans c2)
  obtain rfl := Option.some.inj (gt3.symm.trans d2)
  have hopt : ca[0]? = some (.bool true) := by
    obtain ⟨z, hz, hx⟩ := DataW.trod_bool Tryz.underlying4 a4
    have hx' := congrArg Prod.fst hx
    unfold Rows.laid_internal_strconv_optimize at hx'
    injection hx' with hx'
    injection hx' with hx'
    subst hx'
    rw [← Array.getElem?_toList, hz]
    rfl
  have hpow := pow_tab c4
  obtain ⟨b, o, k1, k2, k3, k4⟩ := cheat_tab (fun _ => rfl) d4
  refine { opt := ?_, ten := ?_, phi := fun i hi => ?_, plo := fun i hi => ?_, cheat := ⟨b, o, k1, ?_, k3, k4⟩, size := hsz }
  · rw [World.var?_cell g0 a3 0]
    exact hopt
  · have b4' : DataW.trod (fun _ => ()) Tryz.prog W 0 (fun _ => true) false fb 197 cb.toList = some (Lib.tabData .u64 Lib.pow10Tab, pb) := by
      rw [← ten_eq]
      exact b4
    unfold Lib.TabIs
    rw [b3, ← Lib.cells_of_tab Tryz.underlying197 Tryz.underlying164 cs164 cs197 b4']
  · rw [World.var?_cell g2 c3 (i * 2), ← Array.getElem?_toList]
    exact (hpow i hi).1
  · rw [World.var?_cell g2 c3 (i * 2 + 1), ← Array.getElem?_toList]
    exact (hpow i hi).2
  · rw [World.var?_cell g3 d3 0, ← Array.getElem?_toList, k2]
    rfl
end Go.Proofs.YtokmamakmaojpaaGreatDoor

/-
  H0. impl.floats, ints: copies of rows.
  H1. The package's constructors.
  H2. The package's MultiPoint: an option is a function value.
-/
import Derived.Test.YtokmamakmaojpaaGreatDoorM27
import Derived.Test.YtokmamakmaojpaaGreatDoorM06
import Derived.Test.YtokmamakmaojpaaGreatDoorM21
import Derived.OwnWalk
import Derived.Laws.AppendOwnNone
import Derived.Deep.AppendLies
import Derived.Lib.SliceRun
set_option linter.unusedVariables false
set_option linter.unusedSimpArgs false
/- H0. -/
namespace Go.Proofs.YtokmamakmaojpaaGreatDoor
open Go.RowKit

theorem info146 : (Tryz.prog.info? 146).map (fun i => (i.zero, i.size, i.bytes)) = some (some (.float .f64 0), 1, 8) := by kernel_rfl
theorem info3 : (Tryz.prog.info? 3).map (fun i => (i.zero, i.size, i.bytes)) = some (some (.int .i64 0), 1, 8) := by kernel_rfl

/-- An owned row of one-cell elements, as a row. -/
theorem RowAt.of_own {w : World} {B : Nat} {e : TypeId} {v : Value} {n : Nat} {xs : List Value} {f : Nat → Nat → Value} (h : w.ownsRow B e 1 v n xs) (hx : ∀ i, i < n → xs[i]? = some (f i 0)) : RowAt w v n 1 f := by
  have h' := h
  rcases h.2 with ⟨rfl, rfl⟩ | ⟨g, cap, cur, rfl, hb, hg, hc, hm, hcs, ht⟩
  · exact RowAt.nil w 1 f
  · refine ⟨_, cap, rfl, hc, hm, fun hn => ⟨g, 0, rfl, (Array.getElem?_eq_some_iff.1 hg).1, fun i j hi hj => ?_⟩⟩
    obtain rfl : j = 0 := by omega
    have := h'.cells (g := g) rfl i (f i 0) (hx i hi)
    simp only [Addr.add] at this
    split at this
    · rename_i h0
      subst h0
      simpa using this
    · simpa using this
/-- .. and of the call's own blocks alone. -/
theorem RowAt.of_own_new {w : World} {B : Nat} {e : TypeId} {v : Value} {n : Nat} {xs : List Value} {f : Nat → Nat → Value} (h : w.ownsRow B e 1 v n xs) (hx : ∀ i, i < n → xs[i]? = some (f i 0)) : RowAt (hole (oldB B) w) v n 1 f := by
  have h0 := RowAt.of_own h hx
  rcases h.2 with ⟨rfl, rfl⟩ | ⟨g, cap, cur, rfl, hb, hg, hc, hm, hcs, ht⟩
  · exact RowAt.nil _ 1 f
  · obtain ⟨A, cap', h1, h2, h3, h4⟩ := h0
    refine ⟨A, cap', h1, h2, h3, fun hn => ?_⟩
    obtain ⟨b, o, h5, h6, h7⟩ := h4 hn
    subst h5
    injection h1 with h1 _ _
    injection h1 with h1
    injection h1 with h1 _ _
    subst h1
    have hgh := hole_keep (X := oldB B) hg (oldB_no hb)
    refine ⟨g, o, rfl, (Array.getElem?_eq_some_iff.1 hgh).1, fun i j hi hj => ?_⟩
    have := h7 i j hi hj
    rw [Lib.cell_of_heap hg] at this
    rw [Lib.cell_of_heap hgh]
    exact this
def rowC (f : Nat → Nat → Value) (n : Nat) : List Value := (List.range n).map fun i => f i 0
theorem rowC_at (f : Nat → Nat → Value) (n i : Nat) (h : i < n) : (rowC f n)[i]? = some (f i 0) := by
  unfold rowC
  rw [List.getElem?_map, List.getElem?_range h]
  rfl
theorem rowC_length (f : Nat → Nat → Value) (n : Nat) : (rowC f n).length = n := by simp [rowC]
theorem rowC_cells {w : World} {b o n cap : Nat} {f : Nat → Nat → Value} (h : RowAt w (.slice (some ⟨b, o, none⟩) n cap) n 1 f) : ∀ j u, (rowC f n)[j]? = some u → w.cell? ((⟨b, o, none⟩ : Addr).add j) = some u := by
  intro j u hu
  have hj : j < n := by
    have := (List.getElem?_eq_some_iff.1 hu).1
    rwa [rowC_length] at this
  rw [rowC_at f n j hj] at hu
  injection hu with hu
  obtain ⟨b', o', hA, _, hc⟩ := h.one hj
  injection hA with hA
  injection hA with h1 h2
  subst h1 h2
  simp only [Addr.add]
  split
  · rename_i h0
    subst h0
    rw [Nat.add_zero] at hc
    rw [hc, hu]
  · rw [hc, hu]

/-- What a call that hands back a new row leaves. -/
def RowRet (n : Nat) (f : Nat → Nat → Value) (w : World) (e : Ending) (w' : World) : Prop := ∃ A c, e = .returned (.slice A n c) ∧ (A = none → n = 0) ∧ RowAt (hole (oldB w.heap.size) w') (.slice A n c) n 1 f ∧ Below w.heap.size w w'

set_option maxHeartbeats 1000000 in
theorem floats24 (n : Nat) (hn : n ≤ 2097152) (f : List Nat) (v : Value) (w : World) (h : RowAt w v n 1 (fltC f)) : Calls Tryz.prog 24 #[v] w (RowRet n (fltC f) w) := by
  obtain ⟨i0, hi, hz0, hz1, hz2⟩ := info_parts info146
  obtain ⟨A, cap, rfl, hc, hm, hr⟩ := id h
  by_cases h0 : n = 0
  · subst h0
    clear hr
    cases A with
    | none =>
      go_enter Tryz.func24, Tryz.ntmps24
      go_wp2
      go_ret
      exact ⟨none, 0, rfl, fun _ => rfl, RowAt.nil _ _ _, Below.refl _ _⟩
    | some a =>
      go_enter Tryz.func24, Tryz.ntmps24
      go_wp2
      go_ret
      exact ⟨none, 0, rfl, fun _ => rfl, RowAt.nil _ _ _, Below.refl _ _⟩
  · obtain ⟨b, o, rfl, _, _⟩ := hr (by omega)
    have hcs := rowC_cells h
    have hln := rowC_length (fltC f) n
    have hone : ∀ u ∈ rowC (fltC f) n, u.oneCell' = true := fun u hu => by
      unfold rowC at hu
      rw [List.mem_map] at hu
      obtain ⟨i, _, rfl⟩ := hu
      rfl
    have HCS := Lib.hid hcs
    have HLN := Lib.hid hln
    have HONE := Lib.hid hone
    clear h hr hcs hln hone
    go_enter Tryz.func24, Tryz.ntmps24
    go_wp2_with (at_builtin; refine wpList_append_own _ rfl _ _ 24 rfl w.heap.size 146 i0 (.float .f64 0) 1 8 Tryz.underlying24 hi hz0 hz1 hz2 rfl (by decide) _ 0 [] rfl (World.ownsRow_nil _ _ _ _) ⟨b, o, none⟩ n cap (rowC (fltC f) n) rfl (by rw [HLN.out]; omega) HCS.out HONE.out (by unfold maxLen; omega) (by omega) (Nat.le_refl _) ?_; intro v' w1 hown hgrow _; have HOWN := Lib.hid hown; have HGR := Lib.hid hgrow; clear hown hgrow)
    go_ret
    have hw := HOWN.out
    rw [Nat.zero_add, List.nil_append] at hw
    obtain ⟨g, cp, hv, _, _⟩ := hw.form (by omega)
    have hf := RowAt.of_own_new hw fun i hi => rowC_at _ _ _ hi
    rw [hv] at hf
    exact ⟨some ⟨g, 0, none⟩, cp, congrArg Ending.returned hv, (fun h => by simp at h), hf, (Below.refl _ _).grown (show w.grownBy w1 none from HGR.out) (Nat.le_refl _) (fun k hk => nomatch hk)⟩
set_option maxHeartbeats 1000000 in
theorem ints32 (n : Nat) (hn : n ≤ 2097152) (f : List Int) (v : Value) (w : World) (h : RowAt w v n 1 (intC f)) : Calls Tryz.prog 32 #[v] w (RowRet n (intC f) w) := by
  obtain ⟨i0, hi, hz0, hz1, hz2⟩ := info_parts info3
  obtain ⟨A, cap, rfl, hc, hm, hr⟩ := id h
  by_cases h0 : n = 0
  · subst h0
    clear hr
    cases A with
    | none =>
      go_enter Tryz.func32, Tryz.ntmps32
      go_wp2
      go_ret
      exact ⟨none, 0, rfl, fun _ => rfl, RowAt.nil _ _ _, Below.refl _ _⟩
    | some a =>
      go_enter Tryz.func32, Tryz.ntmps32
      go_wp2
      go_ret
      exact ⟨none, 0, rfl, fun _ => rfl, RowAt.nil _ _ _, Below.refl _ _⟩
  · obtain ⟨b, o, rfl, _, _⟩ := hr (by omega)
    have hcs := rowC_cells h
    have hln := rowC_length (intC f) n
    have hone : ∀ u ∈ rowC (intC f) n, u.oneCell' = true := fun u hu => by
      unfold rowC at hu
      rw [List.mem_map] at hu
      obtain ⟨i, _, rfl⟩ := hu
      rfl
    have HCS := Lib.hid hcs
    have HLN := Lib.hid hln
    have HONE := Lib.hid hone
    clear h hr hcs hln hone
    go_enter Tryz.func32, Tryz.ntmps32
    go_wp2_with (at_builtin; refine wpList_append_own _ rfl _ _ 25 rfl w.heap.size 3 i0 (.int .i64 0) 1 8 Tryz.underlying25 hi hz0 hz1 hz2 rfl (by decide) _ 0 [] rfl (World.ownsRow_nil _ _ _ _) ⟨b, o, none⟩ n cap (rowC (intC f) n) rfl (by rw [HLN.out]; omega) HCS.out HONE.out (by unfold maxLen; omega) (by omega) (Nat.le_refl _) ?_; intro v' w1 hown hgrow _; have HOWN := Lib.hid hown; have HGR := Lib.hid hgrow; clear hown hgrow)
    go_ret
    have hw := HOWN.out
    rw [Nat.zero_add, List.nil_append] at hw
    obtain ⟨g, cp, hv, _, _⟩ := hw.form (by omega)
    have hf := RowAt.of_own_new hw fun i hi => rowC_at _ _ _ hi
    rw [hv] at hf
    exact ⟨some ⟨g, 0, none⟩, cp, congrArg Ending.returned hv, (fun h => by simp at h), hf, (Below.refl _ _).grown (show w.grownBy w1 none from HGR.out) (Nat.le_refl _) (fun k hk => nomatch hk)⟩
set_option maxHeartbeats 1000000 in
theorem ints32o (n : Nat) (hn : n ≤ 2097152) (f : List Int) (v : Value) (w : World) (h : RowAt w v n 1 (intC f)) : Calls Tryz.prog 32 #[v] w (fun e w' => ∃ v', e = .returned v' ∧ w'.ownsRow w.heap.size 3 1 v' n (rowC (intC f) n) ∧ Below w.heap.size w w') := by
  obtain ⟨i0, hi, hz0, hz1, hz2⟩ := info_parts info3
  obtain ⟨A, cap, rfl, hc, hm, hr⟩ := id h
  by_cases h0 : n = 0
  · subst h0
    clear hr
    cases A with
    | none =>
      go_enter Tryz.func32, Tryz.ntmps32
      go_wp2
      go_ret
      exact ⟨_, rfl, World.ownsRow_nil _ _ _ _, Below.refl _ _⟩
    | some a =>
      go_enter Tryz.func32, Tryz.ntmps32
      go_wp2
      go_ret
      exact ⟨_, rfl, World.ownsRow_nil _ _ _ _, Below.refl _ _⟩
  · obtain ⟨b, o, rfl, _, _⟩ := hr (by omega)
    have hcs := rowC_cells h
    have hln := rowC_length (intC f) n
    have hone : ∀ u ∈ rowC (intC f) n, u.oneCell' = true := fun u hu => by
      unfold rowC at hu
      rw [List.mem_map] at hu
      obtain ⟨i, _, rfl⟩ := hu
      rfl
    have HCS := Lib.hid hcs
    have HLN := Lib.hid hln
    have HONE := Lib.hid hone
    clear h hr hcs hln hone
    go_enter Tryz.func32, Tryz.ntmps32
    go_wp2_with (at_builtin; refine wpList_append_own _ rfl _ _ 25 rfl w.heap.size 3 i0 (.int .i64 0) 1 8 Tryz.underlying25 hi hz0 hz1 hz2 rfl (by decide) _ 0 [] rfl (World.ownsRow_nil _ _ _ _) ⟨b, o, none⟩ n cap (rowC (intC f) n) rfl (by rw [HLN.out]; omega) HCS.out HONE.out (by unfold maxLen; omega) (by omega) (Nat.le_refl _) ?_; intro v' w1 hown hgrow _; have HOWN := Lib.hid hown; have HGR := Lib.hid hgrow; clear hown hgrow)
    go_ret
    refine ⟨_, rfl, ?_, (Below.refl _ _).grown (show w.grownBy w1 none from HGR.out) (Nat.le_refl _) (fun k hk => nomatch hk)⟩
    have := HOWN.out
    rw [Nat.zero_add, List.nil_append] at this
    exact this

theorem info25 : (Tryz.prog.info? 25).map (fun i => (i.zero, i.size, i.bytes)) = some (some (.slice none 0 0), 1, 24) := by kernel_rfl

/-- What intss leaves. -/
def RowsRet (es : List (List Int)) (w : World) (e : Ending) (w' : World) : Prop :=
  ∃ A c, ∃ ev : Nat → Value, e = .returned (.slice A es.length c) ∧ RowAt (hole (oldB w.heap.size) w') (.slice A es.length c) es.length 1 (fun i _ => ev i) ∧
    (∀ i, i < es.length → RowAt (hole (oldB w.heap.size) w') (ev i) (es.getD i []).length 1 (intC (es.getD i []))) ∧ Below w.heap.size w w'

set_option maxRecDepth 100000 in
set_option maxHeartbeats 2000000 in
theorem intss40 (es : List (List Int)) (hq : es.length ≤ 2097152) (hz : ∀ i, i < es.length → (es.getD i []).length ≤ 2097152) (u : Value) (ev : Nat → Value) (w : World) (hu : RowAt w u es.length 1 (fun i _ => ev i))
    (hrows : ∀ i, i < es.length → RowAt w (ev i) (es.getD i []).length 1 (intC (es.getD i []))) : Calls Tryz.prog 40 #[u] w (RowsRet es w) := by
  obtain ⟨i0, hi, hz0, hz1, hz2⟩ := info_parts info25
  obtain ⟨A, cap, rfl, hc, hm, _⟩ := id hu
  unfold maxLen at hm
  obtain ⟨q, hqq⟩ : ∃ q, es.length = q := ⟨_, rfl⟩
  rw [hqq] at hu hc hrows hz hq
  have HZ := Lib.hid hz
  have HU := Lib.hid hu
  have HROWS := Lib.hid hrows
  have HQ := Lib.hid hqq
  rw [hqq]
  clear hu hrows hqq hz
  go_enter Tryz.func40, Tryz.ntmps40
  go_wp2_with (fail)
  go_loopg [3, 8] q (fun gk v3 vc wr => ∃ i : Nat, i + gk = q ∧ vc = .int .i64 i ∧ Below w.heap.size w wr ∧ ∃ vs : List Value, Hid (vs.length = i) ∧ wr.ownsRow w.heap.size 25 1 v3 i vs ∧ Hid (∀ x ∈ vs, x.oneCell' = true) ∧
    Hid (∀ j, j < i → wr.ownsRow w.heap.size 3 1 (vs.getD j undef) (es.getD j []).length (rowC (intC (es.getD j [])) (es.getD j []).length)))
  case atStart => exact ⟨0, by omega, by go_num, Below.refl _ _, [], Lib.hid rfl, World.ownsRow_nil _ _ _ _, Lib.hid (by simp), Lib.hid (fun j h => absurd h (by omega))⟩
  case round =>
    obtain ⟨i, hi', rfl, hB, vs, hvl, hown, hone, hel⟩ := hrel
    by_cases hlt : i < q
    · have HI := Lib.hid hi'
      obtain ⟨bb, o, rfl, _, h0⟩ := (HU.out.below (Nat.le_refl _) hB).one hlt
      have hrow := (HROWS.out i hlt).below (Nat.le_refl _) hB
      have hzi := HZ.out i hlt
      obtain ⟨row, hrw⟩ : ∃ row, es.getD i [] = row := ⟨_, rfl⟩
      rw [hrw] at hrow hzi
      obtain ⟨Ae, ce, hee, hle1, hle2, _⟩ := id hrow
      rw [hee] at h0 hrow
      have HIN := Lib.hid (ints32o row.length hzi row _ wr hrow)
      have HRW := Lib.hid hrw
      have HB := Lib.hid hB
      have HOWN := Lib.hid hown
      obtain ⟨z, hzz⟩ : ∃ z, row.length = z := ⟨_, rfl⟩
      rw [hzz] at h0 HIN hle1 hzi
      have HZZ := Lib.hid hzz
      obtain ⟨a3, n3, c3, rfl⟩ : ∃ a n c, u3 = Value.slice a n c := by
        rcases hown.2 with ⟨hv, _⟩ | ⟨g, cap, cur, hv, _⟩
        · exact ⟨_, _, _, hv⟩
        · exact ⟨_, _, _, hv⟩
      clear hi' hrow hee hrw hB hown hzz hle2
      go_wp2_with (fail)
      refine HIN.out.mono ?_
      rintro e1 w1 ⟨v', rfl, hown1, hB1⟩
      have HO1 := Lib.hid hown1
      have HB1 := Lib.hid hB1
      have HB2 : Hid (Below w.heap.size w w1) := Lib.hid (HB.out.trans (hB1.mono HB.out.size))
      obtain ⟨a5, n5, c5, rfl⟩ : ∃ a n c, v' = Value.slice a n c := by
        rcases hown1.2 with ⟨hv, _⟩ | ⟨g, cap, cur, hv, _⟩
        · exact ⟨_, _, _, hv⟩
        · exact ⟨_, _, _, hv⟩
      have hownR := (ownsRow_still HOWN.out hB1).alloc (.cells #[.slice a5 n5 c5] 25)
      clear hown1 hB1
      go_wp2_with (at_builtin; refine wpList_append_own _ rfl _ _ 26 rfl w.heap.size 25 i0 (.slice none 0 0) 1 24 Tryz.underlying26 hi hz0 hz1 hz2 rfl (by decide) _ i vs rfl hownR ⟨w1.heap.size, 0, none⟩ 1 1 [.slice a5 n5 c5] rfl rfl ?c1 ?c2 ?c3 ?c4 ?c5 ?_)
      case c1 =>
        intro j u hj
        match j, hj with
        | 0, hj => simp at hj; subst hj; simp [Addr.add]
      case c2 => intro u hu; simp at hu; subst hu; rfl
      case c3 => unfold maxLen; omega
      case c4 => omega
      case c5 => have := HB2.out.size; simp; omega
      intro v6 w2 hown2 hgrow2 _
      have HO2 := Lib.hid hown2
      have HG2 : Hid ((w1.alloc (.cells #[.slice a5 n5 c5] 25)).grownBy w2 (Value.slice a3 n3 c3).ownBlock) := Lib.hid hgrow2
      have HOR := Lib.hid hownR
      clear hown2 hgrow2 hownR
      go_wp2_with (fail)
      go_roundg (q - (i + 1))
      case measure => have := HI.out; omega
      case rel =>
        have hB3 : Below w.heap.size w w2 := (HB2.out.alloc HB2.out.size _).grown HG2.out (by have := HB2.out.size; simp; omega) (fun k hk => (HOR.out.lt k hk).1)
        have hkeep : ∀ (x : Value) (n : Nat) (xs : List Value), (w1.alloc (.cells #[.slice a5 n5 c5] 25)).ownsRow w.heap.size 3 1 x n xs → w2.ownsRow w.heap.size 3 1 x n xs := by
          intro x n xs hx
          refine hx.kept HG2.out ?_
          rcases HOR.out.2 with ⟨hv, _⟩ | ⟨g, cp, cur, hv, _, hg, _⟩
          · rw [hv]
            exact Classical.em _
          · rw [hv]
            right
            exact Lib.ownBlock_ne hx hg (by decide)
        refine ⟨i + 1, by omega, by go_num, hB3, vs ++ [.slice a5 n5 c5], Lib.hid (by rw [List.length_append, hvl.out]; rfl), HO2.out, Lib.hid ?_, Lib.hid fun j hj => ?_⟩
        · intro x hx
          rcases List.mem_append.1 hx with h | h
          · exact hone.out x h
          · rw [List.mem_singleton.1 h]
            rfl
        · rcases Nat.lt_succ_iff_lt_or_eq.1 hj with h1 | h1
          · have e : (vs ++ [Value.slice a5 n5 c5]).getD j undef = vs.getD j undef := by
              rw [List.getD_eq_getElem?_getD, List.getD_eq_getElem?_getD, List.getElem?_append_left (by rw [hvl.out]; exact h1)]
            rw [e]
            exact hkeep _ _ _ ((ownsRow_still (hel.out j h1) HB1.out).alloc _)
          · subst h1
            have e : (vs ++ [Value.slice a5 n5 c5]).getD j undef = .slice a5 n5 c5 := by
              rw [List.getD_eq_getElem?_getD, List.getElem?_append_right (by rw [hvl.out]; exact Nat.le_refl _), hvl.out, Nat.sub_self]
              rfl
            rw [e, HRW.out, HZZ.out]
            refine hkeep _ _ _ (World.ownsRow.alloc ?_ _)
            exact ⟨HO1.out.1, HO1.out.2.imp id (fun ⟨g, cp, cur, h1, h2, h3⟩ => ⟨g, cp, cur, h1, Nat.le_trans HB.out.size h2, h3⟩)⟩
    · have ei : i = q := by omega
      subst ei
      have HB := Lib.hid hB
      have HOWN := Lib.hid hown
      clear hB hown hi'
      go_wp2_with (fail)
      go_ret
      have hf := RowAt.of_own_new (f := fun j _ => vs.getD j undef) HOWN.out fun j hj => (by
        show vs[j]? = some (vs.getD j undef)
        rw [List.getD_eq_getElem?_getD, List.getElem?_eq_getElem (by rw [hvl.out]; exact hj)]
        rfl)
      obtain ⟨a9, c9, hv9, _⟩ := id hf
      rw [hv9] at hf
      refine ⟨a9, c9, fun j => vs.getD j undef, ?_, ?_, fun j hj => ?_, HB.out⟩
      · rw [HQ.out]
        exact congrArg Ending.returned hv9
      · rw [HQ.out]
        exact hf
      · rw [HQ.out] at hj
        exact RowAt.of_own_new (hel.out j hj) fun k hk => rowC_at _ _ _ hk
end Go.Proofs.YtokmamakmaojpaaGreatDoor

/- H1. -/
namespace Go.Proofs.YtokmamakmaojpaaGreatDoor
open Go.RowKit

/-- A call that lays one block of its own and hands back its address. -/
def New (cs : Array Value) (T : TypeId) (w : World) (e : Ending) (w' : World) : Prop := e = .returned (.pointer (some ⟨w.heap.size, 0, none⟩)) ∧ w.alloc (.cells cs T) = w'
/-- A call that stores into a block and hands back its address. -/
def Put1 (b i : Nat) (v : Value) (w : World) (e : Ending) (w' : World) : Prop := e = .returned (.pointer (some ⟨b, 0, none⟩)) ∧ w.setCell ⟨b, i, none⟩ v = w'

set_option maxHeartbeats 1000000 in
theorem new25 (l : Int) (h0 : 0 ≤ l) (h1 : l ≤ 9) (A : Option Addr) (n c : Nat) (w : World) : Calls Tryz.prog 25 #[.int .i64 l, .slice A n c] w (New #[.int .i64 l, .int .i64 (strideF l), .slice A n c, .int .i64 0] 112 w) := by
  have hst := fun w => stride55 l h0 h1 w
  obtain ⟨S, hS⟩ : ∃ S, strideF l = S := ⟨_, rfl⟩
  rw [hS] at hst ⊢
  have HST := Lib.hid hst
  clear hst hS
  go_enter Tryz.func25, Tryz.ntmps25
  go_wp2_with (go_at_call 55; refine (HST.out _).mono ?_; rintro e w' ⟨rfl, rfl⟩)
  go_ret
  exact ⟨rfl, rfl⟩

set_option maxHeartbeats 1000000 in
theorem new27 (l : Int) (h0 : 0 ≤ l) (h1 : l ≤ 9) (A : Option Addr) (n c : Nat) (w : World) : Calls Tryz.prog 27 #[.int .i64 l, .slice A n c] w (New #[.int .i64 l, .int .i64 (strideF l), .slice A n c, .int .i64 0] 119 w) := by
  have hst := fun w => stride55 l h0 h1 w
  obtain ⟨S, hS⟩ : ∃ S, strideF l = S := ⟨_, rfl⟩
  rw [hS] at hst ⊢
  have HST := Lib.hid hst
  clear hst hS
  go_enter Tryz.func27, Tryz.ntmps27
  go_wp2_with (go_at_call 55; refine (HST.out _).mono ?_; rintro e w' ⟨rfl, rfl⟩)
  go_ret
  exact ⟨rfl, rfl⟩

set_option maxHeartbeats 1000000 in
theorem new29 (l : Int) (h0 : 0 ≤ l) (h1 : l ≤ 9) (A : Option Addr) (n c : Nat) (w : World) : Calls Tryz.prog 29 #[.int .i64 l, .slice A n c] w (New #[.int .i64 l, .int .i64 (strideF l), .slice A n c, .int .i64 0] 120 w) := by
  have hst := fun w => stride55 l h0 h1 w
  obtain ⟨S, hS⟩ : ∃ S, strideF l = S := ⟨_, rfl⟩
  rw [hS] at hst ⊢
  have HST := Lib.hid hst
  clear hst hS
  go_enter Tryz.func29, Tryz.ntmps29
  go_wp2_with (go_at_call 55; refine (HST.out _).mono ?_; rintro e w' ⟨rfl, rfl⟩)
  go_ret
  exact ⟨rfl, rfl⟩

set_option maxHeartbeats 1000000 in
theorem new31 (l : Int) (h0 : 0 ≤ l) (h1 : l ≤ 9) (A : Option Addr) (n c : Nat) (A4 : Option Addr) (n4 c4 : Nat) (w : World) : Calls Tryz.prog 31 #[.int .i64 l, .slice A n c, .slice A4 n4 c4] w (New #[.int .i64 l, .int .i64 (strideF l), .slice A n c, .int .i64 0, .slice A4 n4 c4] 124 w) := by
  have hst := fun w => stride55 l h0 h1 w
  obtain ⟨S, hS⟩ : ∃ S, strideF l = S := ⟨_, rfl⟩
  rw [hS] at hst ⊢
  have HST := Lib.hid hst
  clear hst hS
  go_enter Tryz.func31, Tryz.ntmps31
  go_wp2_with (go_at_call 55; refine (HST.out _).mono ?_; rintro e w' ⟨rfl, rfl⟩)
  go_ret
  exact ⟨rfl, rfl⟩

set_option maxHeartbeats 1000000 in
theorem new37 (l : Int) (h0 : 0 ≤ l) (h1 : l ≤ 9) (A : Option Addr) (n c : Nat) (A4 : Option Addr) (n4 c4 : Nat) (w : World) : Calls Tryz.prog 37 #[.int .i64 l, .slice A n c, .slice A4 n4 c4] w (New #[.int .i64 l, .int .i64 (strideF l), .slice A n c, .int .i64 0, .slice A4 n4 c4] 129 w) := by
  have hst := fun w => stride55 l h0 h1 w
  obtain ⟨S, hS⟩ : ∃ S, strideF l = S := ⟨_, rfl⟩
  rw [hS] at hst ⊢
  have HST := Lib.hid hst
  clear hst hS
  go_enter Tryz.func37, Tryz.ntmps37
  go_wp2_with (go_at_call 55; refine (HST.out _).mono ?_; rintro e w' ⟨rfl, rfl⟩)
  go_ret
  exact ⟨rfl, rfl⟩

set_option maxHeartbeats 1000000 in
theorem new39 (l : Int) (h0 : 0 ≤ l) (h1 : l ≤ 9) (A : Option Addr) (n c : Nat) (A4 : Option Addr) (n4 c4 : Nat) (w : World) : Calls Tryz.prog 39 #[.int .i64 l, .slice A n c, .slice A4 n4 c4] w (New #[.int .i64 l, .int .i64 (strideF l), .slice A n c, .int .i64 0, .slice A4 n4 c4] 134 w) := by
  have hst := fun w => stride55 l h0 h1 w
  obtain ⟨S, hS⟩ : ∃ S, strideF l = S := ⟨_, rfl⟩
  rw [hS] at hst ⊢
  have HST := Lib.hid hst
  clear hst hS
  go_enter Tryz.func39, Tryz.ntmps39
  go_wp2_with (go_at_call 55; refine (HST.out _).mono ?_; rintro e w' ⟨rfl, rfl⟩)
  go_ret
  exact ⟨rfl, rfl⟩

theorem srid26 (b : Nat) (s x : Int) (w : World) (h : w.cell? ⟨b, 3, none⟩ = some (.int .i64 x)) (hf : w.frozen? ⟨b, 3, none⟩ = false) : Calls Tryz.prog 26 #[.pointer (some ⟨b, 0, none⟩), .int .i64 s] w (Put1 b 3 (.int .i64 s) w) := by
  go_enter Tryz.func26, Tryz.ntmps26
  go_wp2
  go_ret
  exact ⟨rfl, rfl⟩

theorem srid28 (b : Nat) (s x : Int) (w : World) (h : w.cell? ⟨b, 3, none⟩ = some (.int .i64 x)) (hf : w.frozen? ⟨b, 3, none⟩ = false) : Calls Tryz.prog 28 #[.pointer (some ⟨b, 0, none⟩), .int .i64 s] w (Put1 b 3 (.int .i64 s) w) := by
  go_enter Tryz.func28, Tryz.ntmps28
  go_wp2
  go_ret
  exact ⟨rfl, rfl⟩

theorem srid30 (b : Nat) (s x : Int) (w : World) (h : w.cell? ⟨b, 3, none⟩ = some (.int .i64 x)) (hf : w.frozen? ⟨b, 3, none⟩ = false) : Calls Tryz.prog 30 #[.pointer (some ⟨b, 0, none⟩), .int .i64 s] w (Put1 b 3 (.int .i64 s) w) := by
  go_enter Tryz.func30, Tryz.ntmps30
  go_wp2
  go_ret
  exact ⟨rfl, rfl⟩

theorem srid33 (b : Nat) (s x : Int) (w : World) (h : w.cell? ⟨b, 3, none⟩ = some (.int .i64 x)) (hf : w.frozen? ⟨b, 3, none⟩ = false) : Calls Tryz.prog 33 #[.pointer (some ⟨b, 0, none⟩), .int .i64 s] w (Put1 b 3 (.int .i64 s) w) := by
  go_enter Tryz.func33, Tryz.ntmps33
  go_wp2
  go_ret
  exact ⟨rfl, rfl⟩

theorem srid36 (b : Nat) (s x : Int) (w : World) (h : w.cell? ⟨b, 3, none⟩ = some (.int .i64 x)) (hf : w.frozen? ⟨b, 3, none⟩ = false) : Calls Tryz.prog 36 #[.pointer (some ⟨b, 0, none⟩), .int .i64 s] w (Put1 b 3 (.int .i64 s) w) := by
  go_enter Tryz.func36, Tryz.ntmps36
  go_wp2
  go_ret
  exact ⟨rfl, rfl⟩

theorem srid38 (b : Nat) (s x : Int) (w : World) (h : w.cell? ⟨b, 3, none⟩ = some (.int .i64 x)) (hf : w.frozen? ⟨b, 3, none⟩ = false) : Calls Tryz.prog 38 #[.pointer (some ⟨b, 0, none⟩), .int .i64 s] w (Put1 b 3 (.int .i64 s) w) := by
  go_enter Tryz.func38, Tryz.ntmps38
  go_wp2
  go_ret
  exact ⟨rfl, rfl⟩

theorem srid41 (b : Nat) (s x : Int) (w : World) (h : w.cell? ⟨b, 3, none⟩ = some (.int .i64 x)) (hf : w.frozen? ⟨b, 3, none⟩ = false) : Calls Tryz.prog 41 #[.pointer (some ⟨b, 0, none⟩), .int .i64 s] w (Put1 b 3 (.int .i64 s) w) := by
  go_enter Tryz.func41, Tryz.ntmps41
  go_wp2
  go_ret
  exact ⟨rfl, rfl⟩

theorem srid43 (b : Nat) (s x : Int) (w : World) (h : w.cell? ⟨b, 2, none⟩ = some (.int .i64 x)) (hf : w.frozen? ⟨b, 2, none⟩ = false) : Calls Tryz.prog 43 #[.pointer (some ⟨b, 0, none⟩), .int .i64 s] w (Put1 b 2 (.int .i64 s) w) := by
  go_enter Tryz.func43, Tryz.ntmps43
  go_wp2
  go_ret
  exact ⟨rfl, rfl⟩
theorem new42 (w : World) : Calls Tryz.prog 42 #[] w (New #[.int .i64 0, .slice none 0 0, .int .i64 0] 142 w) := by
  go_enter Tryz.func42, Tryz.ntmps42
  go_wp2
  go_ret
  exact ⟨rfl, rfl⟩
end Go.Proofs.YtokmamakmaojpaaGreatDoor

/- H2. -/
namespace Go.Proofs.YtokmamakmaojpaaGreatDoor
open Go.RowKit

theorem opt35 (A : Option Addr) (n c : Nat) (w : World) : Calls Tryz.prog 35 #[.slice A n c] w fun e w' => e = .returned (.func (.func 68) #[] #[.pointer (some ⟨w.heap.size, 0, none⟩)]) ∧ w.alloc (.cells #[.slice A n c] 25) = w' := by
  have hmf : ∀ (fn : Fn) (first cap : Array Value) (w : World), (Instr.makeFunc fn first cap).run Tryz.prog w = .ok (.func fn first cap) w := fun _ _ _ _ => rfl
  go_enter Tryz.func35, Tryz.ntmps35
  go_wp2
  go_ret
  exact ⟨rfl, rfl⟩
theorem opt68 (A : Option Addr) (n c b pb : Nat) (x : Value) (hx : x.oneCell' = true) (w : World) (h0 : w.cell? ⟨pb, 0, none⟩ = some (.slice A n c)) (h1 : w.cell? ⟨b, 4, none⟩ = some x) (hf : w.frozen? ⟨b, 4, none⟩ = false) :
    Calls Tryz.prog 68 #[.pointer (some ⟨b, 0, none⟩), .pointer (some ⟨pb, 0, none⟩)] w fun e w' => e = .returned (.tuple #[]) ∧ w.setCell ⟨b, 4, none⟩ (.slice A n c) = w' := by
  go_enter Tryz.func68, Tryz.ntmps68
  go_wp2
  go_end0
  exact ⟨rfl, rfl⟩
set_option maxHeartbeats 1000000 in
set_option maxRecDepth 100000 in
theorem new34 (l : Int) (h0 : 0 ≤ l) (h1 : l ≤ 9) (A : Option Addr) (n c : Nat) (A4 : Option Addr) (n4 c4 : Nat) (ob pb : Nat) (w : World) (hn : n ≤ 2097152) (hnil : A4 = none → n = 0)
    (ho : w.cell? ⟨ob, 0, none⟩ = some (.func (.func 68) #[] #[.pointer (some ⟨pb, 0, none⟩)])) (hp : w.cell? ⟨pb, 0, none⟩ = some (.slice A4 n4 c4)) (hob : ob < w.heap.size) (hpb : pb < w.heap.size) :
    Calls Tryz.prog 34 #[.int .i64 l, .slice A n c, .slice (some ⟨ob, 0, none⟩) 1 1] w (New #[.int .i64 l, .int .i64 (strideF l), .slice A n c, .int .i64 0, .slice A4 n4 c4] 128 w) := by
  have hst := fun w => stride55 l h0 h1 w
  obtain ⟨S, hS⟩ : ∃ S, strideF l = S := ⟨_, rfl⟩
  rw [hS] at hst ⊢
  have HST := Lib.hid hst
  have q25 : ∀ (w : World) (a : Option Addr) (n c n' c' : Nat), (binOp .eql 25 (.slice a n c) (.slice none n' c')).run Tryz.prog w = .ok (.bool a.isNone) w := fun w a n c n' c' => Lib.run_eql_slice_nil w _ _ a n c n' c' Tryz.underlying25
  clear hst hS
  go_enter Tryz.func34, Tryz.ntmps34
  go_wp2_with (go_at_call 55; refine (HST.out _).mono ?_; rintro e w' ⟨rfl, rfl⟩)
  go_loopg [37] 1 (fun gk vc wr => (gk = 1 ∧ vc = .int .i64 0 ∧ wr = w.alloc (.cells #[.int .i64 l, .int .i64 S, .slice A n c, .int .i64 0, .slice none 0 0] 128)) ∨ (gk = 0 ∧ vc = .int .i64 1 ∧ wr = w.alloc (.cells #[.int .i64 l, .int .i64 S, .slice A n c, .int .i64 0, .slice A4 n4 c4] 128)))
  case atStart => exact Or.inl ⟨rfl, rfl, rfl⟩
  case round =>
    have ho1 : ∀ cs T, (w.alloc (.cells cs T)).cell? ⟨ob, 0, none⟩ = some (.func (.func 68) #[] #[.pointer (some ⟨pb, 0, none⟩)]) := fun cs T => (World.cell?_alloc_lt w _ ⟨ob, 0, none⟩ hob).trans ho
    have hp1 : ∀ cs T, (w.alloc (.cells cs T)).cell? ⟨pb, 0, none⟩ = some (.slice A4 n4 c4) := fun cs T => (World.cell?_alloc_lt w _ ⟨pb, 0, none⟩ hpb).trans hp
    have HO1 := Lib.hid ho1
    have HP1 := Lib.hid hp1
    clear ho1 hp1 ho hp
    obtain ⟨rfl, rfl, rfl⟩ | ⟨rfl, rfl, rfl⟩ := hrel
    · have hx0 := HO1.out #[.int .i64 l, .int .i64 S, .slice A n c, .int .i64 0, .slice none 0 0] 128
      have HOP := Lib.hid (opt68 A4 n4 c4 w.heap.size pb (.slice none 0 0) rfl _ (HP1.out #[.int .i64 l, .int .i64 S, .slice A n c, .int .i64 0, .slice none 0 0] 128) (by go_simp) (by go_simp))
      go_wp2_with (fail)
      refine HOP.out.mono ?_
      rintro e1 w1 ⟨rfl, hw1⟩
      have hw2 : w.alloc (.cells #[.int .i64 l, .int .i64 S, .slice A n c, .int .i64 0, .slice A4 n4 c4] 128) = w1 := by
        rw [← hw1, World.setCell_alloc_new]
        rfl
      subst hw2
      clear hw1
      go_wp2_with (fail)
      go_roundg 0
      case measure => omega
      case rel => exact Or.inr ⟨rfl, by go_num, rfl⟩
    · cases A4 with
      | none =>
        obtain rfl : n = 0 := hnil rfl
        go_wp2_with (fail)
        go_ret
        exact ⟨rfl, rfl⟩
      | some a =>
        clear hnil
        go_wp2_with (fail)
        go_ret
        exact ⟨rfl, rfl⟩
end Go.Proofs.YtokmamakmaojpaaGreatDoor

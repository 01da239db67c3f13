/-
  L0. Plain: how long a text can be.
  L1. The law.
  L2. The law, for every data.
-/
import Derived.Test.YtokmamakmaojpaaGreatDoorM38
set_option linter.unusedVariables false
set_option linter.unusedSimpArgs false
set_option linter.unnecessarySimpa false
/- L0. -/
namespace Go.Proofs.YtokmamakmaojpaaGreatDoor
open Go.RowKit

theorem placesT_len {d : Int} (h0 : -1 ≤ d) (h1 : d ≤ 20) (st : Nat) {f : List Nat} (hx : ∀ x ∈ f, x < 18446744073709551616) : (placesT st d f).length ≤ 2004 * f.length + 5 := by
  unfold placesT
  split
  · simp [emptyT]
  · rw [inBr_length]
    have := numsU_length h0 h1 st hx f.length
    omega
theorem pointT_len {d : Int} (h0 : -1 ≤ d) (h1 : d ≤ 20) {f : List Nat} (hx : ∀ x ∈ f, x < 18446744073709551616) : (pointT d f).length ≤ 2004 * f.length + 5 := by
  unfold pointT
  split
  · simp [emptyT]
  · have := numsU_length h0 h1 0 hx f.length
    omega
theorem mem_segAt {f : List Nat} {s : Nat} {e : List Int} {i x : Nat} (h : x ∈ segAt f s e i) : x ∈ f := List.mem_of_mem_drop (List.mem_of_mem_take h)
theorem ringsT_len {d : Int} (h0 : -1 ≤ d) (h1 : d ≤ 20) (st : Nat) {f : List Nat} (hx : ∀ x ∈ f, x < 18446744073709551616) (s : Nat) (e : List Int) : (ringsT st d f s e).length ≤ e.length * (2004 * f.length + 7) + 2 := by
  unfold ringsT
  rw [inBr_length]
  have := joinT_bound (f := fun k => placesT st d (segAt f s e k)) (M := 2004 * f.length + 5) (fun i => by
    have h := placesT_len h0 h1 st (f := segAt f s e i) (fun x hxx => hx x (mem_segAt hxx))
    have := segAt_le f s e i
    omega) e.length
  rw [show 2004 * f.length + 5 + 2 = 2004 * f.length + 7 from rfl] at this
  omega
theorem pointsT_len {d : Int} (h0 : -1 ≤ d) (h1 : d ≤ 20) {f : List Nat} (hx : ∀ x ∈ f, x < 18446744073709551616) (e : List Int) : (pointsT d f e).length ≤ e.length * (2004 * f.length + 7) + 2 := by
  unfold pointsT
  rw [inBr_length]
  have := joinT_bound (f := fun k => pointT d (segAt f 0 e k)) (M := 2004 * f.length + 5) (fun i => by
    have h := pointT_len h0 h1 (f := segAt f 0 e i) (fun x hxx => hx x (mem_segAt hxx))
    have := segAt_le f 0 e i
    omega) e.length
  rw [show 2004 * f.length + 5 + 2 = 2004 * f.length + 7 from rfl] at this
  omega
theorem polysT_len {d : Int} (h0 : -1 ≤ d) (h1 : d ≤ 20) (st : Nat) {f : List Nat} (hx : ∀ x ∈ f, x < 18446744073709551616) (es : List (List Int)) (W : Nat) (hW : ∀ i, (es.getD i []).length ≤ W) : (polysT st d f es).length ≤ es.length * (W * (2004 * f.length + 7) + 9) + 2 := by
  unfold polysT
  rw [inBr_length]
  have := joinT_bound (f := polyT st d f es) (M := W * (2004 * f.length + 7) + 7) (fun i => by
    unfold polyT
    split
    · exact Nat.le_trans (show emptyT.length ≤ 7 by decide) (by omega)
    · have h := ringsT_len h0 h1 st hx (startOf es i) (es.getD i [])
      have h2 := Nat.mul_le_mul_right (2004 * f.length + 7) (hW i)
      omega) es.length
  rw [show W * (2004 * f.length + 7) + 7 + 2 = W * (2004 * f.length + 7) + 9 from rfl] at this
  omega
theorem nameT_len (k : Int) : (nameT k).length ≤ 19 := by
  unfold nameT
  repeat' split
  all_goals decide
theorem tagT_len (l : Int) : (tagT l).length ≤ 3 := by
  unfold tagT
  repeat' split
  all_goals decide
theorem rowsW_getD (es : List (List Int)) (i : Nat) : (es.getD i []).length ≤ rowsW es := by
  by_cases h : i < es.length
  · have := rowsW_take es i h
    have := rowsW_take_le es (i + 1)
    omega
  · rw [List.getD_eq_getElem?_getD, List.getElem?_eq_none (by omega)]
    exact Nat.zero_le _
theorem joinT_sum {d : Int} {C : Nat} : ∀ (l : List G), (∀ i (h : i < l.length), (wktT d l[i]).length + 2 ≤ C * wgt l[i]) → ∀ n, n ≤ l.length → (joinT (fun i => (wktTs d l).getD i []) n).length ≤ C * wgts (l.take n)
  | l, h, 0, _ => Nat.zero_le _
  | l, h, n + 1, hn => by
    have ih := joinT_sum l h n (by omega)
    have h1 := h n (by omega)
    have h4 : joinT (fun i => (wktTs d l).getD i []) (n + 1) = joinT (fun i => (wktTs d l).getD i []) n ++ (if n = 0 then [] else commaT) ++ (wktTs d l).getD n [] := rfl
    have h2 : (if n = 0 then ([] : List UInt8) else commaT).length ≤ 2 := by split <;> simp [commaT]
    rw [h4, List.length_append, List.length_append, wgts_take l n (by omega), Nat.mul_add, wktTs_getD d l n (by omega)]
    omega
theorem wktT_len {d : Int} (h0 : -1 ≤ d) (h1 : d ≤ 20) (g : G) : gok g → wgt g ≤ 2000 → (wktT d g).length + 2 ≤ 8100000000 * wgt g := by
  induction g using G.ind with
  | h k l s f e es kids ih =>
    intro hok hW
    have hW' := hW
    rw [wgt] at hW'
    have hx := hok.1
    have hn := nameT_len k
    have ht := tagT_len (layT (.mk k l s f e es kids))
    have hb : (bodyT d (.mk k l s f e es kids)).length + 30 ≤ 8100000000 * wgt (.mk k l s f e es kids) := by
      rw [wgt]
      have hp := placesT_len h0 h1 (strideF l).toNat hx
      have hr := ringsT_len h0 h1 (strideF l).toNat hx 0 e
      have hq := pointsT_len h0 h1 hx e
      have hpo := polysT_len h0 h1 (strideF l).toNat hx es 2000 (fun i => by have := rowsW_getD es i; omega)
      have m1 : e.length * (2004 * f.length + 7) ≤ e.length * 4008007 := Nat.mul_le_mul_left _ (by omega)
      have m2 : es.length * (2000 * (2004 * f.length + 7) + 9) ≤ es.length * 8016014009 := Nat.mul_le_mul_left _ (by omega)
      have hel := length_le_rowsW es
      have hbt : bodyT d (.mk k l s f e es kids) = (if k = 1 ∨ k = 2 ∨ k = 8 then placesT (strideF l).toNat d f
        else if k = 3 then (if f.length = 0 then emptyT else ringsT (strideF l).toNat d f 0 e)
        else if k = 4 then (if e.length = 0 then emptyT else pointsT d f e)
        else if k = 5 then (if e.length = 0 then emptyT else ringsT (strideF l).toNat d f 0 e)
        else if k = 6 then (if es.length = 0 then emptyT else polysT (strideF l).toNat d f es)
        else (if kids.length = 0 then emptyT else inBr (joinT (fun i => (wktTs d kids).getD i []) kids.length))) := rfl
      rw [hbt]
      have hem : emptyT.length = 5 := rfl
      repeat' split
      all_goals try omega
      rw [inBr_length]
      have hj := joinT_sum (d := d) kids (fun i hi => ih i hi (goks_at kids hok.2.2 i hi) (by have := wgts_take kids i hi; have := wgts_take_le kids (i + 1); omega)) kids.length (Nat.le_refl _)
      rw [List.take_length] at hj
      omega
    rw [wktT_eq, List.length_append, List.length_append]
    show (nameT k).length + (tagT (layT (.mk k l s f e es kids))).length + _ + 2 ≤ _
    omega
end Go.Proofs.YtokmamakmaojpaaGreatDoor

/- L1. -/
namespace Go.Proofs.YtokmamakmaojpaaGreatDoor
open Go.RowKit
attribute [local go_sem] no_yield

theorem neq_same (x : ByteArray) (w : World) : (binOp .neq 9 (.string x) (.string x)).run Tryz.prog w = .ok (.bool false) w := by
  have : (binOp .neq 9 (.string x) (.string x)) = Op.stringOp .neq x x := by simp [binOp]
  rw [this]
  unfold Op.stringOp
  simp
set_option maxRecDepth 100000 in
set_option maxHeartbeats 4000000 in
theorem law3_big (l : List G) (d : Int) (hn : l.length ≤ 2097152) (h20 : 20 < l.length) (v : Value) (w : World) (hl : AllAt w v l) : Calls Tryz.prog 3 #[v, .int .i64 d] w (Ret (.bool true) w) := by
  obtain ⟨kc, hk, hkids⟩ := hl
  obtain ⟨A, cap, rfl, hl0, hl1, _⟩ := id hk
  unfold maxLen at hl1
  obtain ⟨n, hnn⟩ : ∃ n, l.length = n := ⟨_, rfl⟩
  rw [hnn] at hl0 hk hn h20 ⊢
  have x1 : ¬ ((n : Int) > 2147483647) := by omega
  have x2 : (n : Int) > 20 := by omega
  clear hk hkids hnn
  go_enter Tryz.func3, Tryz.ntmps3
  go_wp2_with (fail)
  go_ret
  exact ⟨rfl, Below.refl _ _⟩
theorem HB3A (w2 wr2 : World) (o : Obj) (h : Below w2.heap.size w2 wr2) : Below w2.heap.size w2 (wr2.alloc o) := h.alloc h.size _
set_option maxRecDepth 100000 in
set_option maxHeartbeats 4000000 in
theorem law3_good (l : List G) (d : Int) (h0 : -1 ≤ d) (h1 : d ≤ 20) (h20 : l.length ≤ 20) (hW : wgts l ≤ 2097152) (v : Value) (w : World) (ht : Tabs w) (hl : AllAt w v l) : Calls Tryz.prog 3 #[v, .int .i64 d] w (Ret (.bool true) w) := by
  have hgd := fmGood4 l hW v w hl
  obtain ⟨kc, hk, hkids⟩ := id hl
  obtain ⟨A, cap, rfl, hl0, hl1, _⟩ := id hk
  unfold maxLen at hl1
  obtain ⟨n, hnn⟩ : ∃ n, l.length = n := ⟨_, rfl⟩
  rw [hnn] at hl0 hk h20 hl hgd ⊢
  have x1 : ¬ ((n : Int) > 2147483647) := by omega
  have x2 : ¬ ((n : Int) > 20) := by omega
  have x3 : ¬ (d < -1) := by omega
  have x4 : ¬ (d > 20) := by omega
  have HGD := Lib.hid hgd
  have HN := Lib.hid hnn
  have HK := Lib.hid hk
  have HKID := Lib.hid hkids
  have HL := Lib.hid hl
  have HT := Lib.hid ht
  clear hgd hnn hk hkids hl ht
  go_enter Tryz.func3, Tryz.ntmps3
  go_wp2_with (go_at_call 4; refine HGD.out.mono ?_; rintro e1 w1 ⟨b1, rfl, hb1, hB1⟩; have HB1 := Lib.hid hB1; have HBB := Lib.hid hb1; clear hB1 hb1)
  rotate_left
  · go_ret
    exact ⟨rfl, HB1.out⟩
  · have hfacts := HBB.out (by first | rfl | assumption | simp_all)
    have HW2 := Lib.hid hfacts.1
    have HY9 := Lib.hid (layBs_at hfacts.2.1)
    have HG := Lib.hid hfacts.2.2
    have HWT := Lib.hid (fun i => wgts_take_le l i)
    clear hfacts HBB
    go_loopg [34] n (fun gk vc wr => ∃ i : Nat, i + gk = n ∧ vc = .int .i64 i ∧ Below w.heap.size w wr ∧ Hid (∀ j (h : j < l.length), j < i → layB 4 l[j] = true))
    case atStart => exact ⟨0, by omega, rfl, HB1.out, Lib.hid (fun j h h' => absurd h' (by omega))⟩
    case round =>
      obtain ⟨i, hi, rfl, hB, hY⟩ := hrel
      by_cases hlt : i < n
      · have HI := Lib.hid hi
        have hil : i < l.length := by rw [HN.out]; exact hlt
        have hR := fun (c : Nat → Value) (w' : World) (h : GAt w' c l[i]) => fmLayouts5 4 (by omega) (by omega) l[i] c w' h
        obtain ⟨r, hr⟩ : ∃ r, layB 4 l[i] = r := ⟨_, rfl⟩
        simp only [hr] at hR
        have HR := Lib.hid hr
        obtain ⟨b, o, k', l', s', A3', n3, d3, A4', n4, d4, A5', n5, d5, A6', n6, d6, rfl, hb, g0, g1, g2, g3, g4, g5, g6, HC⟩ :=
          kid_at hB HK.out hlt (HKID.out i hil) (R := fun v w' => Calls Tryz.prog 5 #[v, .int .i64 4] w' (Ret (.bool r) w')) hR
        have HB := Lib.hid hB
        clear hi hB hr hR
        have hbelow : ∀ w2, Below ((wr.alloc (Obj.cells #[Value.int IntKind.i64 k', Value.int IntKind.i64 l', Value.int IntKind.i64 s', Value.slice A3' n3 d3, Value.slice A4' n4 d4, Value.slice A5' n5 d5, Value.slice A6' n6 d6] 28))).heap.size (wr.alloc (Obj.cells #[Value.int IntKind.i64 k', Value.int IntKind.i64 l', Value.int IntKind.i64 s', Value.slice A3' n3 d3, Value.slice A4' n4 d4, Value.slice A5' n5 d5, Value.slice A6' n6 d6] 28)) w2 → Below w.heap.size w w2 := fun w2 h2 =>
          (HB.out.alloc HB.out.size _).trans (h2.mono (by simp; have := HB.out.size; omega))
        have HBW := Lib.hid hbelow
        clear hbelow
        cases r with
        | false =>
          go_wp2_with (go_at_call 5; refine (HC.out _ (HB.out.alloc HB.out.size _)).mono ?_; rintro e w2 ⟨rfl, hB2⟩; have HB2 := Lib.hid (HBW.out w2 hB2); clear hB2)
          go_ret
          exact ⟨rfl, HB2.out⟩
        | true =>
          go_wp2_with (go_at_call 5; refine (HC.out _ (HB.out.alloc HB.out.size _)).mono ?_; rintro e w2 ⟨rfl, hB2⟩; have HB2 := Lib.hid (HBW.out w2 hB2); clear hB2)
          go_roundg (n - (i + 1))
          case measure => have := HI.out; omega
          case rel =>
            refine ⟨i + 1, by omega, by go_num, HB2.out, Lib.hid fun j h hj => ?_⟩
            by_cases h3 : j < i
            · exact hY.out j h h3
            · obtain rfl : j = i := by omega
              exact HR.out
      · have ei : i = n := by omega
        subst ei
        have HB := Lib.hid hB
        have HY4 : Hid (∀ j (h : j < l.length), layB 4 l[j] = true) := Lib.hid fun j h => hY.out j h (by rw [HN.out] at h; exact h)
        have hwk : ∀ j (h : j < l.length), wgt l[j] ≤ 2000 := fun j h => by
          have h1 := wgts_take l j h
          have h2 := HWT.out (j + 1)
          have h3 := HW2.out
          omega
        have hlen : ∀ j (h : j < l.length), (wktT d l[j]).length ≤ 140737488355328 := fun j h => by
          have h1 := wktT_len h0 h1 l[j] (HKID.out j h).gok (hwk j h)
          have h2 := hwk j h
          have h3 : 8100000000 * wgt l[j] ≤ 8100000000 * 2000 := Nat.mul_le_mul_left _ h2
          omega
        have HLEN := Lib.hid hlen
        have HWK := Lib.hid hwk
        have hmany := many6 l d h0 h1 (by rw [HN.out]; omega) HY4.out HG.out (fun j h => Nat.le_trans (HWK.out j h) (by omega)) HLEN.out (.slice A i cap) wr (HT.out.below HB.out) (HL.out.below (Nat.le_refl _) HB.out)
        have HMANY := Lib.hid hmany
        clear hi hB hY hmany hlen hwk
        go_wp2_with (go_at_call 6; refine HMANY.out.mono ?_; rintro e2 w2 ⟨At, ct, rfl, hrow, hB2⟩; rw [HN.out] at hrow; have HROW := Lib.hid hrow; have HB2 := Lib.hid hB2; have hHN := HN.out; clear hrow hB2)
        have HBW2 := Lib.hid (HB.out.trans (HB2.out.mono HB.out.size))
        clear HB HB2 HMANY
        go_loopg [59] i (fun gk vc wr2 => ∃ j : Nat, j + gk = i ∧ vc = .int .i64 j ∧ Below w2.heap.size w2 wr2)
        case atStart => exact ⟨0, by omega, rfl, Below.refl _ _⟩
        case round =>
          obtain ⟨j, hj, rfl, hB3⟩ := hrel
          have hBw : Below w.heap.size w wr := HBW2.out.trans (hB3.mono HBW2.out.size)
          by_cases hlt2 : j < i
          · have HJ := Lib.hid hj
            have hjl : j < l.length := by rw [HN.out]; exact hlt2
            have hR := fun (c : Nat → Value) (w' : World) (h : GAt w' c l[j]) (ht : Tabs w') => write7 d h0 h1 l[j] (HY4.out j hjl) (HG.out j hjl) (Nat.le_trans (HWK.out j hjl) (by omega)) (HLEN.out j hjl) c w' ht h
            have hget : l.getD j default = l[j] := by rw [List.getD_eq_getElem?_getD, List.getElem?_eq_getElem hjl]; rfl
            obtain ⟨b, o, k', l', s', A3', n3, d3, A4', n4, d4, A5', n5, d5, A6', n6, d6, rfl, hb, g0, g1, g2, g3, g4, g5, g6, HC⟩ :=
              kid_at hBw HK.out hlt2 (HKID.out j hjl) (R := fun v w' => Tabs w' → Calls Tryz.prog 7 #[v, .int .i64 d] w' (BodyRet (wktT d l[j]) w')) hR
            obtain ⟨bt, ot, rfl, hbt, qt⟩ := (HROW.out.below (Nat.le_refl _) hB3).one hlt2
            rw [hget] at qt
            obtain ⟨tx, htx⟩ : ∃ tx, (wktT d l[j]).toArray = tx := ⟨_, rfl⟩
            have HTX := Lib.hid htx
            rw [htx] at qt
            have hneq := fun w => neq_same ⟨tx⟩ w
            have hal := HB3A w2 wr (.cells #[Value.int .i64 k', .int .i64 l', .int .i64 s', .slice A3' n3 d3, .slice A4' n4 d4, .slice A5' n5 d5, .slice A6' n6 d6] 28) hB3
            have hbw3 : Below w.heap.size w (wr.alloc (.cells #[Value.int .i64 k', .int .i64 l', .int .i64 s', .slice A3' n3 d3, .slice A4' n4 d4, .slice A5' n5 d5, .slice A6' n6 d6] 28)) := hBw.alloc hBw.size _
            have HCALL := Lib.hid (HC.out _ hbw3 (HT.out.below hbw3))
            have HAL := Lib.hid hal
            clear hj hBw hB3 hR hget htx hal hbw3 HC
            by_cases hj0 : j = 0
            · subst hj0
              rw [show ((0 : Nat) : Int) = 0 from rfl]
              simp only [Nat.zero_mul, Nat.add_zero] at g0 g1 g2 g3 g4 g5 g6 qt
              go_wp2_with (fail)
              refine HCALL.out.mono ?_
              rintro e3 w3 ⟨rfl, hB4⟩
              rw [HTX.out]
              have qt3 : w3.cell? ⟨bt, ot, none⟩ = some (.string ⟨tx⟩) := ((((Below.refl wr.heap.size wr).alloc (Nat.le_refl _) _).trans (hB4.mono (by simp))).cell (p := ⟨bt, ot, none⟩) hbt).trans qt
              have HB4 := Lib.hid (HAL.out.trans (hB4.mono HAL.out.size))
              clear hB4 qt
              go_wp2_with (fail)
              go_roundg (i - (0 + 1))
              case measure => have := HJ.out; omega
              case rel => exact ⟨0 + 1, by omega, by go_num, HB4.out⟩
            · clear hj0
              go_wp2_with (fail)
              refine HCALL.out.mono ?_
              rintro e3 w3 ⟨rfl, hB4⟩
              rw [HTX.out]
              have qt3 : w3.cell? ⟨bt, ot + j, none⟩ = some (.string ⟨tx⟩) := ((((Below.refl wr.heap.size wr).alloc (Nat.le_refl _) _).trans (hB4.mono (by simp))).cell (p := ⟨bt, ot + j, none⟩) hbt).trans qt
              have HB4 := Lib.hid (HAL.out.trans (hB4.mono HAL.out.size))
              clear hB4 qt
              go_wp2_with (fail)
              go_roundg (i - (j + 1))
              case measure => have := HJ.out; omega
              case rel => exact ⟨j + 1, by omega, by go_num, HB4.out⟩
          · have ej : j = i := by omega
            subst ej
            have HBF := Lib.hid hBw
            clear hj hB3 hBw
            go_wp2_with (fail)
            go_ret
            exact ⟨rfl, HBF.out⟩
end Go.Proofs.YtokmamakmaojpaaGreatDoor

/- L2. -/
namespace Go.Proofs.YtokmamakmaojpaaGreatDoor
open Go.RowKit
attribute [local go_sem] no_yield

set_option maxRecDepth 100000 in
set_option maxHeartbeats 4000000 in
theorem law3_out (l : List G) (d : Int) (hd : d < -1 ∨ d > 20) (h20 : l.length ≤ 20) (hW : wgts l ≤ 2097152) (v : Value) (w : World) (hl : AllAt w v l) : Calls Tryz.prog 3 #[v, .int .i64 d] w (Ret (.bool true) w) := by
  have hgd := fmGood4 l hW v w hl
  obtain ⟨kc, hk, hkids⟩ := id hl
  obtain ⟨A, cap, rfl, hl0, hl1, _⟩ := id hk
  unfold maxLen at hl1
  obtain ⟨n, hnn⟩ : ∃ n, l.length = n := ⟨_, rfl⟩
  rw [hnn] at hl0 hk h20 hl hgd ⊢
  have x1 : ¬ ((n : Int) > 2147483647) := by omega
  have x2 : ¬ ((n : Int) > 20) := by omega
  have HGD := Lib.hid hgd
  clear hgd hnn hk hkids hl
  rcases hd with x3 | x3
  all_goals
    go_enter Tryz.func3, Tryz.ntmps3
    go_wp2_with (go_at_call 4; refine HGD.out.mono ?_; rintro e1 w1 ⟨b1, rfl, hb1, hB1⟩; have HB1 := Lib.hid hB1; clear hB1 hb1)
    all_goals
      first
      | (go_ret; exact ⟨rfl, HB1.out⟩)
      | (exfalso; simp_all <;> omega)
theorem law3 (l : List G) (d : Int) (hW : wgts l ≤ 2097152) (v : Value) (w : World) (ht : Tabs w) (hl : AllAt w v l) : Calls Tryz.prog 3 #[v, .int .i64 d] w (Ret (.bool true) w) := by
  by_cases h20 : 20 < l.length
  · exact law3_big l d (Nat.le_trans (length_le_wgts l) hW) h20 v w hl
  · by_cases h1 : d < -1 ∨ d > 20
    · exact law3_out l d h1 (by omega) hW v w hl
    · exact law3_good l d (by omega) (by omega) (by omega) hW v w ht hl
end Go.Proofs.YtokmamakmaojpaaGreatDoor

/-
  H5. impl.geometry: collections, and all kinds together.
  J1. impl.WKTMany.
-/
import Derived.Test.YtokmamakmaojpaaGreatDoorM30
import Derived.Test.YtokmamakmaojpaaGreatDoorM29
import Derived.Test.YtokmamakmaojpaaGreatDoorM21
import Derived.Test.YtokmamakmaojpaaGreatDoorM27
import Derived.Defers
import Derived.Recover
set_option linter.unusedVariables false
set_option linter.unusedSimpArgs false
set_option linter.unnecessarySimpa false
/- H5. -/
namespace Go.Proofs.YtokmamakmaojpaaGreatDoor
open Go.RowKit

theorem coll_new {W : World} {B b : Nat} {s : Int} (hB : B ≤ b) (hb : W.heap[b]? = some (.cells #[.int .i64 0, .slice none 0 0, .int .i64 s] 142 (0, 0))) : Coll B b s [] [] W (.slice none 0 0) :=
  ⟨hB, rfl, hb, ⟨rfl, Or.inl ⟨rfl, rfl⟩⟩, by simp [Value.ownBlock], fun i hi => absurd hi (by simp)⟩

theorem coll_end {B b : Nat} {s : Int} {vs : List Value} {gs : List G} {w : World} {gv : Value} (h : Coll B b s vs gs w gv) (l : Int) (f : List Nat) (e : List Int) (es : List (List Int)) :
    TAt (hole (oldB B) (w.setCell ⟨b, 0, none⟩ (.int .i64 l))) (.iface 93 (.pointer (some ⟨b, 0, none⟩))) (.mk 7 l s f e es gs) := by
  have hoth : ∀ k, k ≠ b → (w.setCell ⟨b, 0, none⟩ (.int .i64 l)).heap[k]? = w.heap[k]? := fun k hk => Below.heap_setCell _ _ _ _ (fun e => hk (by simp [e]))
  refine .cl l s f e es gs b gv (fun i => vs.getD i undef) (hole_keep ?_ (oldB_no h.ge)) ?_ (fun i hi => ?_)
  · simp [World.setCell, Array.getElem?_modify, h.at_]
  · rw [← h.len]
    refine RowAt.of_own_new (e := 47) (xs := vs) (h.own.kept (row := some b) ⟨rfl, rfl, rfl, by simp [World.setCell], fun k _ hk => hoth k (fun e => hk (by simp [e]))⟩ (Or.inr h.ne)) fun i hi => ?_
    rw [List.getD_eq_getElem?_getD, List.getElem?_eq_getElem hi]
    rfl
  · refine (h.kids i hi).mono (Sub.hole fun k o hk hX => ?_)
    obtain ⟨x1, x2, x3⟩ := collX_no hX
    exact ⟨oldB_no x1, (hoth k x2).trans hk⟩
theorem coll_check {B b : Nat} {s : Int} {vs : List Value} {gs : List G} {w : World} {gv : Value} (h : Coll B b s vs gs w gv) (L : Int) (hY : ∀ i (hi : i < gs.length), layB 4 gs[i] = true) (hL : ∀ i (hi : i < gs.length), L = 0 ∨ layT gs[i] = L) :
    Calls Tryz.prog 77 #[.pointer (some ⟨b, 0, none⟩), .int .i64 L] w (Same .nilIface w) :=
  check77 w b L vs gs gv h.len (Lib.cell_of_heap h.at_ 1) (RowAt.of_own h.own fun i hi => by
    rw [List.getD_eq_getElem?_getD, List.getElem?_eq_getElem hi]
    rfl) (fun i hi => ((h.kids i hi).mono (Sub.unhole _ _)).layC (hY i hi)) hL

set_option maxRecDepth 100000 in
set_option maxHeartbeats 4000000 in
theorem geo_7 (l s : Int) (f : List Nat) (e : List Int) (es : List (List Int)) (kids : List G) (hl0 : 0 ≤ l) (hl4 : l ≤ 4) (hf : f.length ≤ 2097152) (hkn : kids.length ≤ 2097152) (hY : ∀ i (hi : i < kids.length), layB 4 kids[i] = true) (hL : ∀ i (hi : i < kids.length), l = 0 ∨ layT kids[i] = l) (c : Nat → Value) (w : World) (hg : GAt w c (.mk 7 l s f e es kids))
    (ih : ∀ i (hi : i < kids.length) (c : Nat → Value) (w : World), GAt w c kids[i] → Calls Tryz.prog 14 #[.agg #[c 0, c 1, c 2, c 3, c 4, c 5, c 6]] w (GeoRet kids[i] w)) :
    Calls Tryz.prog 14 #[.agg #[c 0, c 1, c 2, c 3, c 4, c 5, c 6]] w (GeoRet (.mk 7 l s f e es kids) w) := by
  obtain ⟨A3, A4, A5, A6, c3, c4, c5, c6, e0, e1, e2, e3, e4, e5, e6, ho⟩ := hg.open_
  rw [e0, e1, e2, e3, e4, e5, e6]
  have hfl : ∀ w', Below w.heap.size w w' → Calls Tryz.prog 24 #[.slice A3 f.length c3] w' (RowRet f.length (fltC f) w') := fun w' h => floats24 f.length hf f _ w' (ho.flat.below (Nat.le_refl _) h)
  obtain ⟨kc, hk, hkids⟩ := ho.kids
  obtain ⟨hk0, hk1⟩ := hk.le
  obtain ⟨ne, hne⟩ : ∃ ne, e.length = ne := ⟨_, rfl⟩
  obtain ⟨nes, hnes⟩ : ∃ nes, es.length = nes := ⟨_, rfl⟩
  obtain ⟨nk, hnk⟩ : ∃ nk, kids.length = nk := ⟨_, rfl⟩
  obtain ⟨nf, hnf⟩ : ∃ nf, f.length = nf := ⟨_, rfl⟩
  rw [hne, hnes, hnk, hnf]
  rw [hnf] at hfl hf
  rw [hnk] at hk hk0 hkn
  have HNK := Lib.hid hnk
  have HFL := Lib.hid hfl
  have HK := Lib.hid hk
  have HKID := Lib.hid hkids
  have HIH := Lib.hid ih
  have HY := Lib.hid hY
  have HL := Lib.hid hL
  have HBX : Hid (Below w.heap.size w (w.alloc (.cells #[.int .i64 7, .int .i64 l, .int .i64 s, .slice A3 nf c3, .slice A4 ne c4, .slice A5 nes c5, .slice A6 nk c6] 28))) := Lib.hid ((Below.refl _ w).alloc (Nat.le_refl _) _)
  have HKP : Hid (∀ w1, Below ((w.alloc (.cells #[Value.int .i64 7, .int .i64 l, .int .i64 s, .slice A3 nf c3, .slice A4 ne c4, .slice A5 nes c5, .slice A6 nk c6] 28)).drewN 1).heap.size ((w.alloc (.cells #[Value.int .i64 7, .int .i64 l, .int .i64 s, .slice A3 nf c3, .slice A4 ne c4, .slice A5 nes c5, .slice A6 nk c6] 28)).drewN 1) w1 → _) := Lib.hid fun w1 h => box_kept 1 w1 h
  have HSZ : Hid (w.heap.size ≤ ((w.alloc (.cells #[Value.int .i64 7, .int .i64 l, .int .i64 s, .slice A3 nf c3, .slice A4 ne c4, .slice A5 nes c5, .slice A6 nk c6] 28)).drewN 1).heap.size) := Lib.hid (by simp)
  clear e0 e1 e2 e3 e4 e5 e6 hg ho hfl hne hnes hnk hnf hk hkids ih hY hL
  go_enter Tryz.func14, Tryz.ntmps14
  go_upto_region 1 with (fail)
  go_region_held3 (fun w' => w'.cell? ⟨w.heap.size, 1, none⟩ = some (.int .i64 l) ∧ w'.cell? ⟨w.heap.size, 3, none⟩ = some (.slice A3 nf c3)) (go_keep) ((go_at_call 24; refine (HFL.out _ (below_drewN HBX.out 1)).mono ?_; rintro e w2 ⟨A9, c9, rfl, hnil, hrow, hB2⟩; have HB02 := Lib.hid ((below_drewN HBX.out 1).trans (hB2.mono HSZ.out)); obtain ⟨g0, g1, g2, g3, g4, g5, g6, g7⟩ := HKP.out w2 hB2; clear hnil hrow hB2))
  all_goals
    go_upto_region 18 with (fail)
    go_region_held3 (fun w' => w'.cell? ⟨w.heap.size, 2, none⟩ = some (.int .i64 s)) (go_keep) (first | ((go_at_call 42; refine (new42 _).mono ?_; rintro e w3 ⟨rfl, rfl⟩)) | ((go_at_call 43; refine (srid43 w2.heap.size s 0 _ (by go_simp) (by go_simp)).mono ?_; rintro e w4 ⟨rfl, rfl⟩)))
    all_goals
      have h3 : Below w.heap.size w ((w2.alloc (Obj.cells #[Value.int IntKind.i64 0, Value.slice none 0 0, Value.int IntKind.i64 s] 142)).drewN 1) := below_drewN (HB02.out.alloc HB02.out.size _) 1
      have hC : Coll w.heap.size w2.heap.size s [] (kids.take 0) ((w2.alloc (Obj.cells #[Value.int IntKind.i64 0, Value.slice none 0 0, Value.int IntKind.i64 s] 142)).drewN 1) (.slice none 0 0) := coll_new HB02.out.size (heap_alloc_new w2 _)
      have H3 := Lib.hid h3
      have HC := Lib.hid hC
      clear h3 hC g0 g1 g2 g3 g4 g5
      go_wp2_with (fail)
      go_loopg [101] nk (fun gk vc wr => ∃ i : Nat, i + gk = nk ∧ vc = .int .i64 i ∧ Below w.heap.size w wr ∧ ∃ vs gv, vs.length = i ∧ Coll w.heap.size w2.heap.size s vs (kids.take i) wr gv)
      case atStart => exact ⟨0, by omega, rfl, H3.out, [], _, rfl, HC.out⟩
      case round =>
        obtain ⟨i, hi, rfl, hB, vs, gv, hvs, hC⟩ := hrel
        by_cases hlt : i < nk
        · have HI := Lib.hid hi
          have hil : i < kids.length := by rw [HNK.out]; exact hlt
          have htk : kids.take (i + 1) = kids.take i ++ [kids[i]] := List.take_succ_eq_append_getElem hil
          have hR := fun c w' h => HIH.out i hil c w' h
          obtain ⟨kid, hkid⟩ : ∃ kid, kids[i] = kid := ⟨_, rfl⟩
          rw [hkid] at htk hR
          obtain ⟨b, o, k', l', s', A3', n3, d3, A4', n4, d4, A5', n5, d5, A6', n6, d6, rfl, hb, h0, h1, h2, h3, h4, h5, h6, HCL⟩ :=
            kid_at hB HK.out hlt (by rw [← hkid]; exact HKID.out i hil) (R := fun v w' => Calls Tryz.prog 14 #[v] w' (GeoRet kid w')) hR
          have HB := Lib.hid hB
          have HCO := Lib.hid hC
          have HVS := Lib.hid hvs
          have HTK := Lib.hid htk
          clear hi hB hC hR hkid htk hvs
          go_wp2_with (fail)
          have hbx : Below wr.heap.size wr (wr.alloc (Obj.cells #[Value.int IntKind.i64 k', Value.int IntKind.i64 l', Value.int IntKind.i64 s', Value.slice A3' n3 d3, Value.slice A4' n4 d4, Value.slice A5' n5 d5, Value.slice A6' n6 d6] 28)) := (Below.refl _ wr).alloc (Nat.le_refl _) _
          refine (HCL.out _ (HB.out.trans (hbx.mono HB.out.size))).mono ?_
          rintro e4 w4 ⟨v4, rfl, hT, hB4⟩
          obtain ⟨tb, htb, hv4⟩ := hT.form
          obtain ⟨tt, htt⟩ : ∃ tt, ptrT kid.kind = tt := ⟨_, rfl⟩
          rw [htt] at hv4
          subst hv4
          have HT := Lib.hid ((HCO.out.still hbx).apart (Nat.le_trans HB.out.size hbx.size) hT)
          have HT' := Lib.hid hT
          have HBX4 := Lib.hid (hbx.trans (hB4.mono hbx.size))
          have HCB := Lib.hid (HCO.out.still hbx)
          have HWL := Lib.hid (Nat.le_trans HB.out.size hbx.size)
          have HB4 := Lib.hid hB4
          clear hT hB4 htt htb hbx
          go_wp2_with (fail)
          refine (mustPush44 w.heap.size w2.heap.size s vs (kids.take i) _ gv ((HCB.out.still HB4.out).still ((Below.refl _ _).alloc (Nat.le_refl _) _)) ?_ _ kid (HT.out.mono (Sub.hole fun k o hk hX => ⟨hX, (((Below.refl _ w4).alloc (Nat.le_refl _) _).block k (Array.getElem?_eq_some_iff.1 hk).1).trans hk⟩)) w4.heap.size (Lib.cell_of_heap (heap_alloc_new w4 _) 0) ?_).mono ?_
          · have h1 := HWL.out
            have h2 := HB4.out.size
            simp at h1 h2 ⊢
            omega
          · rw [HVS.out]
            omega
          rintro e5 w5 ⟨rfl, ⟨gv5, hC5⟩, hB5⟩
          have HC5 := Lib.hid hC5
          have HB5 := Lib.hid hB5
          clear hC5 hB5
          go_wp2_with (fail)
          go_roundg (nk - (i + 1))
          case measure => have := HI.out; omega
          case rel =>
            refine ⟨i + 1, by omega, by go_num, ?_, vs ++ [Value.iface tt (Value.pointer (some { block := tb, off := 0 }))], gv5, by rw [List.length_append, HVS.out]; rfl, ?_⟩
            · have h1 := HB.out.trans (HBX4.out.mono HB.out.size)
              exact (h1.alloc h1.size _).trans HB5.out
            · rw [HTK.out]
              exact HC5.out
        · have ei : i = nk := by omega
          subst ei
          have HB := Lib.hid hB
          have htk : kids.take i = kids := by rw [← HNK.out, List.take_length]
          rw [htk] at hC
          have HCO := Lib.hid hC
          have HVS := Lib.hid hvs
          clear hB hC hi hvs htk
          go_wp2_with (fail)
          refine (mustSet45 wr w2.heap.size l 0 (coll_check HCO.out l HY.out HL.out) (Lib.cell_of_heap HCO.out.at_ 0) (Lib.frozen_of_heap HCO.out.at_ 0)).mono ?_
          rintro e5 w5 ⟨rfl, rfl⟩
          go_wp2_with (fail)
          go_ret
          exact ⟨_, rfl, coll_end HCO.out l f e es, HB.out.setCell (p := ⟨w2.heap.size, 0, none⟩) HB02.out.size _⟩
/-- geometry: the package's geometry of every good data. -/
theorem geometry14 (g : G) : layB 4 g = true → goodB g = true → wgt g ≤ 2097152 → ∀ (c : Nat → Value) (w : World), GAt w c g → Calls Tryz.prog 14 #[.agg #[c 0, c 1, c 2, c 3, c 4, c 5, c 6]] w (GeoRet g w) := by
  induction g using G.ind with
  | h k l s f e es kids ih =>
    intro hY hB hW c w hg
    have hlay := layB_own hY
    rw [wgt] at hW
    by_cases h7 : k = 7
    · subst h7
      have hc := coll_of hB
      exact geo_7 l s f e es kids hlay.1 hlay.2.1 (by omega) (by have := length_le_wgts kids; omega) (layB_kid hY) (fun i hi => (hc i hi).2) c w hg
        (fun i hi c w hg => ih i hi (layB_kid hY i hi) (hc i hi).1 (by have := wgts_take kids i hi; have := wgts_take_le kids (i + 1); omega) c w hg)
    · have hl1 := hlay.2.2 h7
      have hl9 : l ≤ 9 := by omega
      obtain ⟨hp, rfl⟩ := leaf_of h7 hl1 hl9 hg.gok hB
      rcases hp.kind with rfl | rfl | rfl | rfl | rfl | rfl | rfl
      · exact geo_1 l s f e es [] hl1 hl9 (by omega) c w hg
      · exact geo_2 l s f e es [] hl1 hl9 (by omega) c w hg
      · exact geo_8 l s f e es [] hl1 hl9 (by omega) c w hg
      · exact geo_3 l s f e es [] hl1 hl9 (by omega) (by omega) c w hg
      · exact geo_4 l s f e es [] hl1 hl9 (by omega) (by omega) (hp.ends (by omega)).2.2 c w hg
      · exact geo_5 l s f e es [] hl1 hl9 (by omega) (by omega) c w hg
      · exact geo_6 l s f e es [] hl1 hl9 (by omega) (by have := length_le_rowsW es; omega) (fun i hi => by have := rowsW_take es i hi; have := rowsW_take_le es (i + 1); omega) c w hg
end Go.Proofs.YtokmamakmaojpaaGreatDoor

/- J1. -/
namespace Go.Proofs.YtokmamakmaojpaaGreatDoor
open Go.RowKit

theorem info9 : (Tryz.prog.info? 9).map (fun i => (i.zero, i.size, i.bytes)) = some (some (.string ⟨#[]⟩), 1, 16) := by kernel_rfl
theorem many_idle (p q : Addr) (w : World) :
    CallsD Tryz.prog 10 #[.pointer (some p), .pointer (some q)] .returning w fun e u' w' => e = .returned (.tuple #[]) ∧ u' = .returning ∧ w = w' := by
  refine callsD_of_wpS Tryz.func10 rfl fun c₀ cs hu => ?_
  apply wpS_seq
  apply wpS_region
  simp [wpOpsS, go_sem, recoverD, hu, Tryz.ntmps10, Exit.thenS]
  refine wpS_cond (t := false) (by simp [Act.eval, Array.replicate]) ?_
  simp only [Bool.false_eq_true, if_false]
  refine wpS_of_wp (wp_skip ?_)
  cases c₀
  simp_all [bodyPostS, results, Tryz.results10]

/-- The state of WKTMany at a round's head: its two results, its encoder, the texts so far. -/
structure ManyI (w : World) (d : Int) (ss : List Value) (wr : World) (gv : Value) : Prop where
  below : Below w.heap.size w wr
  r0 : wr.heap[w.heap.size]? = some (.cells #[gv] 30 (0, 0))
  r1 : wr.heap[w.heap.size + 1]? = some (.cells #[.bool false] 4 (0, 0))
  en : wr.heap[w.heap.size + 4]? = some (.cells #[.int .i64 d] 58 (0, 0))
  own : wr.ownsRow (w.heap.size + 5) 9 1 gv ss.length ss
theorem lt_of_get {w : World} {b : Nat} {o : Obj} (h : w.heap[b]? = some o) : b < w.heap.size := (Array.getElem?_eq_some_iff.1 h).1
theorem ManyI.still {w : World} {d : Int} {ss : List Value} {wr w' : World} {gv : Value} (h : ManyI w d ss wr gv) (hb : Below wr.heap.size wr w') : ManyI w d ss w' gv :=
  ⟨h.below.trans (hb.mono h.below.size), (hb.block _ (lt_of_get h.r0)).trans h.r0, (hb.block _ (lt_of_get h.r1)).trans h.r1, (hb.block _ (lt_of_get h.en)).trans h.en, ownsRow_still h.own hb⟩
theorem ManyI.enc {w : World} {d : Int} {ss : List Value} {wr : World} {gv : Value} (h : ManyI w d ss wr gv) (hT : Tabs w) (h0 : -1 ≤ d) (h1 : d ≤ 20) : Enc wr (w.heap.size + 4) d :=
  ⟨hT.below h.below, lt_of_get h.en, Lib.cell_of_heap h.en 0, h0, h1⟩
/-- The texts that are to be written. -/
noncomputable def txts (d : Int) (l : List G) : List Value := l.map fun g => .string ⟨(wktT d g).toArray⟩
theorem heap_alloc_old {w : World} {k : Nat} {x : Obj} (o : Obj) (h : w.heap[k]? = some x) : (w.alloc o).heap[k]? = some x := (((Below.refl _ w).alloc (Nat.le_refl _) o).block k (lt_of_get h)).trans h
theorem size_alloc (w : World) (o : Obj) : (w.alloc o).heap.size = w.heap.size + 1 := by simp
theorem heap5 (w : World) (a b c d e : Obj) : Below w.heap.size w (((((w.alloc a).alloc b).alloc c).alloc d).alloc e) ∧ (((((w.alloc a).alloc b).alloc c).alloc d).alloc e).heap[w.heap.size]? = some a ∧
    (((((w.alloc a).alloc b).alloc c).alloc d).alloc e).heap[w.heap.size + 1]? = some b ∧ (((((w.alloc a).alloc b).alloc c).alloc d).alloc e).heap[w.heap.size + 4]? = some e := by
  have e1 := size_alloc w a
  have e2 := size_alloc (w.alloc a) b
  have e3 := size_alloc ((w.alloc a).alloc b) c
  have e4 := size_alloc (((w.alloc a).alloc b).alloc c) d
  have h5 := heap_alloc_new ((((w.alloc a).alloc b).alloc c).alloc d) e
  have h1 := heap_alloc_new (w.alloc a) b
  rw [e1] at h1
  rw [show ((((w.alloc a).alloc b).alloc c).alloc d).heap.size = w.heap.size + 4 by omega] at h5
  refine ⟨(((((Below.refl _ w).alloc (by omega) _).alloc (by omega) _).alloc (by omega) _).alloc (by omega) _).alloc (by omega) _, heap_alloc_old _ (heap_alloc_old _ (heap_alloc_old _ (heap_alloc_old _ (heap_alloc_new w a)))), heap_alloc_old _ (heap_alloc_old _ (heap_alloc_old _ h1)), h5⟩
theorem heap4 (w : World) (a b c d : Obj) : ((((w.alloc a).alloc b).alloc c).alloc d).heap[w.heap.size + 2]? = some c ∧ ((((w.alloc a).alloc b).alloc c).alloc d).heap[w.heap.size + 3]? = some d ∧ ((((w.alloc a).alloc b).alloc c).alloc d).heap.size = w.heap.size + 4 := by
  have e1 := size_alloc w a
  have e2 := size_alloc (w.alloc a) b
  have e3 := size_alloc ((w.alloc a).alloc b) c
  have e4 := size_alloc (((w.alloc a).alloc b).alloc c) d
  have h4 := heap_alloc_new (((w.alloc a).alloc b).alloc c) d
  rw [show (((w.alloc a).alloc b).alloc c).heap.size = w.heap.size + 3 by omega] at h4
  have h3 := heap_alloc_new ((w.alloc a).alloc b) c
  rw [show ((w.alloc a).alloc b).heap.size = w.heap.size + 2 by omega] at h3
  exact ⟨heap_alloc_old _ h3, h4, by omega⟩
def ManyRet (d : Int) (l : List G) (w : World) (e : Ending) (w' : World) : Prop := ∃ A c, e = .returned (.tuple #[.slice A l.length c, .bool true]) ∧ RowAt w' (.slice A l.length c) l.length 1 (fun i _ => .string ⟨(wktT d (l.getD i default)).toArray⟩) ∧ Below w.heap.size w w'
theorem ManyI.push {w : World} {d : Int} {ss : List Value} {wr w2 : World} {gv v : Value} {r : Value} (h : ManyI w d ss wr gv) (hown : w2.ownsRow (w.heap.size + 5) 9 1 v (ss.length + 1) (ss ++ [r])) (hgr : wr.grownBy w2 gv.ownBlock) :
    ManyI w d (ss ++ [r]) (w2.setCell ⟨w.heap.size, 0, none⟩ v) v ∧ w2.cell? ⟨w.heap.size, 0, none⟩ = some gv ∧ w2.frozen? ⟨w.heap.size, 0, none⟩ = false := by
  have hob : ∀ k, k < w.heap.size + 5 → some k ≠ gv.ownBlock := fun k hk e => by
    have := (ownBlock_lt h.own e.symm).1
    omega
  have hb0 : w2.heap[w.heap.size]? = some (.cells #[gv] 30 (0, 0)) := (hgr.block _ (lt_of_get h.r0) (hob _ (by omega))).trans h.r0
  have hb1 : w2.heap[w.heap.size + 1]? = some (.cells #[.bool false] 4 (0, 0)) := (hgr.block _ (lt_of_get h.r1) (hob _ (by omega))).trans h.r1
  have hb2 : w2.heap[w.heap.size + 4]? = some (.cells #[.int .i64 d] 58 (0, 0)) := (hgr.block _ (lt_of_get h.en) (hob _ (by omega))).trans h.en
  have hoth : ∀ k, k ≠ w.heap.size → (w2.setCell ⟨w.heap.size, 0, none⟩ v).heap[k]? = w2.heap[k]? := fun k hk => Below.heap_setCell _ _ _ _ (fun e => hk (by simp [e]))
  refine ⟨⟨?_, ?_, (hoth _ (by omega)).trans hb1, (hoth _ (by omega)).trans hb2, ?_⟩, Lib.cell_of_heap hb0 0, Lib.frozen_of_heap hb0 0⟩
  · exact ((h.below.grown hgr h.below.size (fun k hk => by have := (ownBlock_lt h.own hk).1; omega))).setCell (p := ⟨w.heap.size, 0, none⟩) (Nat.le_refl _) _
  · simp [World.setCell, Array.getElem?_modify, hb0]
  · rw [List.length_append]
    refine hown.kept (row := some w.heap.size) ⟨rfl, rfl, rfl, by simp [World.setCell], fun k _ hk => hoth k (fun e => hk (by simp [e]))⟩ (Or.inr ?_)
    intro e
    have := (ownBlock_lt hown e).1
    omega

theorem ManyI.done {w : World} {d : Int} {ss : List Value} {wr : World} {gA : Option Addr} {gn gc : Nat} (h : ManyI w d ss wr (.slice gA gn gc)) :
    gn = ss.length ∧ RowAt ((wr.setCell ⟨w.heap.size, 0, none⟩ (.slice gA gn gc)).setCell ⟨w.heap.size + 1, 0, none⟩ (.bool true)) (.slice gA gn gc) ss.length 1 (fun i _ => ss.getD i undef) ∧
      Below w.heap.size w ((wr.setCell ⟨w.heap.size, 0, none⟩ (.slice gA gn gc)).setCell ⟨w.heap.size + 1, 0, none⟩ (.bool true)) ∧
      ((wr.setCell ⟨w.heap.size, 0, none⟩ (.slice gA gn gc)).setCell ⟨w.heap.size + 1, 0, none⟩ (.bool true)).cell? ⟨w.heap.size, 0, none⟩ = some (.slice gA gn gc) ∧
      ((wr.setCell ⟨w.heap.size, 0, none⟩ (.slice gA gn gc)).setCell ⟨w.heap.size + 1, 0, none⟩ (.bool true)).cell? ⟨w.heap.size + 1, 0, none⟩ = some (.bool true) := by
  have hno : ∀ k, k < w.heap.size + 5 → (Value.slice gA gn gc).ownBlock ≠ some k := fun k hk e => by
    have := (ownBlock_lt h.own e).1
    omega
  have key : ∀ (x : World) (k : Nat) (v : Value), k < w.heap.size + 5 → x.ownsRow (w.heap.size + 5) 9 1 (.slice gA gn gc) ss.length ss → (x.setCell ⟨k, 0, none⟩ v).ownsRow (w.heap.size + 5) 9 1 (.slice gA gn gc) ss.length ss := fun x k v hk ho =>
    ho.kept (row := some k) ⟨rfl, rfl, rfl, by simp [World.setCell], fun j _ hj => Below.heap_setCell _ _ _ _ (fun e => hj (by simp [e]))⟩ (Or.inr (hno k hk))
  have hrow := RowAt.of_own (f := fun i _ => ss.getD i undef) (key _ (w.heap.size + 1) (.bool true) (by omega) (key wr w.heap.size (.slice gA gn gc) (by omega) h.own)) fun i hi => by
    rw [List.getD_eq_getElem?_getD, List.getElem?_eq_getElem hi]
    rfl
  refine ⟨?_, hrow, (h.below.setCell (p := ⟨w.heap.size, 0, none⟩) (Nat.le_refl _) _).setCell (p := ⟨w.heap.size + 1, 0, none⟩) (by show w.heap.size ≤ w.heap.size + 1; omega) _, ?_, ?_⟩
  · obtain ⟨A, cap, h1, _⟩ := hrow
    injection h1
  · have e1 : ((wr.setCell ⟨w.heap.size, 0, none⟩ (.slice gA gn gc)).setCell ⟨w.heap.size + 1, 0, none⟩ (.bool true)).heap[w.heap.size]? = some (.cells #[.slice gA gn gc] 30 (0, 0)) := by
      rw [Below.heap_setCell _ _ _ _ (fun e => by simp at e)]
      simp [World.setCell, Array.getElem?_modify, h.r0]
    exact Lib.cell_of_heap e1 0
  · have e1 : ((wr.setCell ⟨w.heap.size, 0, none⟩ (.slice gA gn gc)).setCell ⟨w.heap.size + 1, 0, none⟩ (.bool true)).heap[w.heap.size + 1]? = some (.cells #[.bool true] 4 (0, 0)) := by
      have e2 : (wr.setCell ⟨w.heap.size, 0, none⟩ (.slice gA gn gc)).heap[w.heap.size + 1]? = some (.cells #[.bool false] 4 (0, 0)) := (Below.heap_setCell _ _ _ _ (fun e => by simp at e)).trans h.r1
      rw [World.setCell] 
      simp only [Array.getElem?_modify, if_pos]
      rw [e2]
      rfl
    exact Lib.cell_of_heap e1 0

set_option maxRecDepth 100000 in
set_option maxHeartbeats 4000000 in
theorem many6 (l : List G) (d : Int) (h0 : -1 ≤ d) (h1 : d ≤ 20) (hn : l.length ≤ 2097152) (hY : ∀ i (hi : i < l.length), layB 4 l[i] = true) (hG : ∀ i (hi : i < l.length), goodB l[i] = true) (hW : ∀ i (hi : i < l.length), wgt l[i] ≤ 2097152)
    (hT : ∀ i (hi : i < l.length), (wktT d l[i]).length ≤ 140737488355328) (v : Value) (w : World) (ht : Tabs w) (hl : AllAt w v l) : Calls Tryz.prog 6 #[v, .int .i64 d] w (ManyRet d l w) := by
  obtain ⟨kc, hk, hkids⟩ := hl
  obtain ⟨A, cap, rfl, hl0, hl1, _⟩ := id hk
  unfold maxLen at hl1
  obtain ⟨i0, hi, hz0, hz1, hz2⟩ := info_parts info9
  obtain ⟨n, hnn⟩ : ∃ n, l.length = n := ⟨_, rfl⟩
  rw [hnn] at hl0 hk hn
  have hgok : ∀ i (hi : i < l.length), gok l[i] := fun i hi => (hkids i hi).gok
  have hmf : ∀ (fn : Fn) (first cap : Array Value) (w : World), (Instr.makeFunc fn first cap).run Tryz.prog w = .ok (.func fn first cap) w := fun _ _ _ _ => rfl
  have h11 := fun w' ho hp hob hpb => new11 d (w.heap.size + 3) (w.heap.size + 2) w' ho hp hob hpb
  have HN := Lib.hid hnn
  have HK := Lib.hid hk
  have HKID := Lib.hid hkids
  have HY := Lib.hid hY
  have HG := Lib.hid hG
  have HW := Lib.hid hW
  have HT := Lib.hid hT
  have HTB := Lib.hid ht
  have HOK := Lib.hid hgok
  have H11 := Lib.hid h11
  clear hnn hk hkids hY hG hW hT ht hgok h11
  rw [HN.out]
  go_enter_defers Tryz.func6, Tryz.ntmps6
  go_wp2_with (first | (go_at_call 12; refine (opt12 _ _).mono ?_; rintro e w' ⟨rfl, rfl⟩))
  refine (H11.out _ (Lib.cell_of_heap (heap4 w _ _ _ _).2.1 0) (Lib.cell_of_heap (heap4 w _ _ _ _).1 0) (by rw [(heap4 w _ _ _ _).2.2]; omega) (by rw [(heap4 w _ _ _ _).2.2]; omega)).mono ?_
  rintro e w5 ⟨rfl, hw5⟩
  have hI : ManyI w d [] w5 (.slice none 0 0) := by
    obtain ⟨q0, q1, q2, q3⟩ := heap5 w (.cells #[Value.slice none 0 0] 30) (.cells #[Value.bool false] 4) (.cells #[Value.int IntKind.i64 d] 3) (.cells #[Value.func (Fn.func 21) #[] #[Value.pointer (some { block := w.heap.size + 1 + 1, off := 0 })]] 40) (.cells #[Value.int IntKind.i64 d] 58)
    rw [← hw5]
    exact ⟨q0, q1, q2, q3, ⟨rfl, Or.inl ⟨rfl, rfl⟩⟩⟩
  have esz : ((((w.alloc (Obj.cells #[Value.slice none 0 0] 30)).alloc (Obj.cells #[Value.bool false] 4)).alloc (Obj.cells #[Value.int IntKind.i64 d] 3)).alloc (Obj.cells #[Value.func (Fn.func 21) #[] #[Value.pointer (some { block := w.heap.size + 1 + 1, off := 0 })]] 40)).heap.size = w.heap.size + 4 := (heap4 w _ _ _ _).2.2
  rw [esz]
  have HI0 := Lib.hid hI
  clear hw5 hI esz
  go_wp2_with (fail)
  go_loopg [18] n (fun gk vc wr => ∃ i : Nat, i + gk = n ∧ vc = .int .i64 i ∧ ∃ gv, Hid (ManyI w d (txts d (l.take i)) wr gv))
  case atStart => exact ⟨0, by omega, rfl, _, HI0⟩
  case round =>
    obtain ⟨i, hi', rfl, gv, HI⟩ := hrel
    obtain ⟨gA, gn, gc, rfl⟩ : ∃ a n c, gv = Value.slice a n c := by
      rcases HI.out.own.2 with ⟨hv, _⟩ | ⟨g, cap, cur, hv, _⟩
      · exact ⟨_, _, _, hv⟩
      · exact ⟨_, _, _, hv⟩
    by_cases hlt : i < n
    · have HII := Lib.hid hi'
      have hil : i < l.length := by rw [HN.out]; exact hlt
      have htk : l.take (i + 1) = l.take i ++ [l[i]] := List.take_succ_eq_append_getElem hil
      have hR := fun (c : Nat → Value) (w' : World) (h : GAt w' c l[i]) => geometry14 l[i] (HY.out i hil) (HG.out i hil) (HW.out i hil) c w' h
      have hEN := fun (v : Value) (w' : World) (he : Enc w' (w.heap.size + 4) d) (hv : TAt w' v l[i]) => encode13 (w.heap.size + 4) d l[i] (HY.out i hil) (HG.out i hil) (HOK.out i hil) (HW.out i hil) (HT.out i hil) v w' he hv
      obtain ⟨kid, hkid⟩ : ∃ kid, l[i] = kid := ⟨_, rfl⟩
      rw [hkid] at htk
      simp only [hkid] at hR hEN
      obtain ⟨b, o, k', l', s', A3', n3, d3, A4', n4, d4, A5', n5, d5, A6', n6, d6, rfl, hb, g0, g1, g2, g3, g4, g5, g6, HCL⟩ :=
        kid_at HI.out.below HK.out hlt (by rw [← hkid]; exact HKID.out i hil) (R := fun v w' => Calls Tryz.prog 14 #[v] w' (GeoRet kid w')) hR
      have HTK := Lib.hid htk
      have HEN := Lib.hid hEN
      clear hi' hR hkid htk hEN
      go_wp2_with (fail)
      have hbx : Below wr.heap.size wr (wr.alloc (Obj.cells #[Value.int IntKind.i64 k', Value.int IntKind.i64 l', Value.int IntKind.i64 s', Value.slice A3' n3 d3, Value.slice A4' n4 d4, Value.slice A5' n5 d5, Value.slice A6' n6 d6] 28)) := (Below.refl _ wr).alloc (Nat.le_refl _) _
      refine (HCL.out _ (HI.out.below.trans (hbx.mono HI.out.below.size))).mono ?_
      rintro e4 w4 ⟨v4, rfl, hT4, hB4⟩
      have HI4 := Lib.hid ((HI.out.still hbx).still hB4)
      have hT5 := hT4.mono (Sub.unhole _ _)
      obtain ⟨tb, htb, hv4⟩ := hT5.form
      obtain ⟨tt, htt⟩ : ∃ tt, ptrT kid.kind = tt := ⟨_, rfl⟩
      rw [htt] at hv4
      subst hv4
      have HT5 := Lib.hid hT5
      clear hT4 hT5 hB4 hbx htt htb
      go_wp2_with (fail)
      refine (HEN.out _ _ (HI4.out.enc HTB.out h0 h1) HT5.out).mono ?_
      rintro e6 w6 ⟨rfl, hB6⟩
      have HI6 := Lib.hid (HI4.out.still hB6)
      have c60 : w6.cell? ⟨w.heap.size, 0, none⟩ = some (Value.slice gA gn gc) := Lib.cell_of_heap HI6.out.r0 0
      obtain ⟨ta, htx⟩ : ∃ ta, (wktT d kid).toArray = ta := ⟨_, rfl⟩
      have HTX := Lib.hid htx
      have htx1 : (Value.string ⟨ta⟩).oneCell' = true := rfl
      have HTX1 := Lib.hid htx1
      have hlen : (txts d (l.take i)).length = i := by rw [txts, List.length_map, List.length_take]; omega
      have hl9 : (txts d (l.take i)).length ≤ 2097152 := by omega
      rw [htx]
      have HIS := Lib.hid (HI6.out.still ((Below.refl _ w6).alloc (Nat.le_refl _) (.cells #[Value.string ⟨ta⟩] 9)))
      have HP : Hid (∀ j u, [Value.string ⟨ta⟩][j]? = some u → (w6.alloc (.cells #[Value.string ⟨ta⟩] 9)).cell? ((⟨w6.heap.size, 0, none⟩ : Addr).add j) = some u) := Lib.hid fun j u hj => by
        match j, hj with
        | 0, hj => simp at hj; subst hj; simpa [Addr.add] using Lib.cell_of_heap (heap_alloc_new w6 (.cells #[Value.string ⟨ta⟩] 9)) 0
      clear hB6 htx htx1 hlen
      go_wp2_with (at_builtin; refine wpList_append_own_at _ rfl _ _ 30 rfl (w.heap.size + 5) 9 i0 (.string ⟨#[]⟩) 1 16 Tryz.underlying30 hi hz0 hz1 hz2 rfl (by decide) _ (txts d (l.take i)).length (txts d (l.take i)) rfl HIS.out.own ⟨w6.heap.size, 0, none⟩ 1 1 [Value.string ⟨ta⟩] rfl rfl HP.out (by intro u hu; simp at hu; subst hu; exact HTX1.out) (by unfold maxLen; omega) (by omega) (lt_of_get HIS.out.en) ?_)
      intro v7 w7 hown7 hgrow7 _ _
      obtain ⟨hM, c7, f7⟩ := HIS.out.push hown7 hgrow7
      obtain ⟨a7, n7, cc7, rfl⟩ : ∃ a n c, v7 = Value.slice a n c := by
        rcases hown7.2 with ⟨hv, _⟩ | ⟨g, cap, cur, hv, _⟩
        · exact ⟨_, _, _, hv⟩
        · exact ⟨_, _, _, hv⟩
      have HM := Lib.hid hM
      clear hM hown7 hgrow7
      go_wp2_with (fail)
      go_roundg (n - (i + 1))
      case measure => have := HII.out; omega
      case rel =>
        refine ⟨i + 1, by omega, by go_num, Value.slice a7 n7 cc7, Lib.hid ?_⟩
        have e1 : txts d (l.take (i + 1)) = txts d (l.take i) ++ [Value.string ⟨ta⟩] := by
          rw [HTK.out, txts, txts, List.map_append, ← HTX.out]
          rfl
        rw [e1]
        exact HM.out
    · have ei : i = n := by omega
      subst ei
      have htk : l.take i = l := by rw [← HN.out, List.take_length]
      rw [htk] at HI
      clear hi' htk
      have c0 : wr.cell? ⟨w.heap.size, 0, none⟩ = some (Value.slice gA gn gc) := Lib.cell_of_heap HI.out.r0 0
      have c1 : wr.cell? ⟨w.heap.size + 1, 0, none⟩ = some (.bool false) := Lib.cell_of_heap HI.out.r1 0
      have f0 : wr.frozen? ⟨w.heap.size, 0, none⟩ = false := Lib.frozen_of_heap HI.out.r0 0
      have f1 : wr.frozen? ⟨w.heap.size + 1, 0, none⟩ = false := Lib.frozen_of_heap HI.out.r1 0
      go_wp2_with (fail)
      refine leaves_cons (f := 10) (args := #[.pointer (some ⟨w.heap.size, 0, none⟩), .pointer (some ⟨w.heap.size + 1, 0, none⟩)]) (by simp) (by simp [go_sem]) ?_
      refine (many_idle ⟨w.heap.size, 0, none⟩ ⟨w.heap.size + 1, 0, none⟩ _).mono ?_
      rintro e u' w'' ⟨rfl, rfl, rfl⟩
      obtain ⟨d0, d1, d2, d3, d4⟩ := HI.out.done
      have hlen : (txts d l).length = l.length := by rw [txts, List.length_map]
      rw [hlen] at d0 d1
      have d1' := RowAt.congr (g := fun i _ => .string ⟨(wktT d (l.getD i default)).toArray⟩) d1 (fun i j hi hj => by
        rw [txts, List.getD_eq_getElem?_getD, List.getElem?_map, List.getD_eq_getElem?_getD, List.getElem?_eq_getElem hi]
        rfl)
      subst d0
      have D : Hid (ManyRet d l w (.returned (.tuple #[.slice gA l.length gc, .bool true])) _) := Lib.hid ⟨gA, gc, rfl, d1', d2⟩
      clear d1 d1' d2 hlen
      simp only [Leaves, settle]
      refine ⟨_, ?_, D.out⟩
      simp [results, Tryz.results6, go_sem, d3, d4]
end Go.Proofs.YtokmamakmaojpaaGreatDoor

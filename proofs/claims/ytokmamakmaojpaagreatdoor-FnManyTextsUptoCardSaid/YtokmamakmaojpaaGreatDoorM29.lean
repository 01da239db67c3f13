/-
  The package's collections: Push.
-/
import Derived.Test.YtokmamakmaojpaaGreatDoorM28
import Derived.Maps.AppendAt
set_option linter.unusedVariables false
set_option linter.unusedSimpArgs false
namespace Go.Proofs.YtokmamakmaojpaaGreatDoor
open Go.RowKit

theorem info47 : (Tryz.prog.info? 47).map (fun i => (i.zero, i.size, i.bytes)) = some (some .nilIface, 1, 16) := by kernel_rfl

/-- The blocks that a collection under way calls its own, and all older ones. -/
def collX (B b : Nat) (gv : Value) : Nat → Bool := fun k => decide (k < B) || decide (k = b) || decide (gv.ownBlock = some k)
theorem collX_no {B b : Nat} {gv : Value} {k : Nat} (h : collX B b gv k = false) : B ≤ k ∧ k ≠ b ∧ gv.ownBlock ≠ some k := by
  unfold collX at h
  simp at h
  exact ⟨h.1.1, h.1.2, h.2⟩
theorem collX_mk {B b : Nat} {gv : Value} {k : Nat} (h1 : B ≤ k) (h2 : k ≠ b) (h3 : gv.ownBlock ≠ some k) : collX B b gv k = false := by
  unfold collX
  simp [h2, h3]
  exact h1
/-- A collection that the call itself makes: at block b, of no layout, with so many parts. -/
structure Coll (B : Nat) (b : Nat) (s : Int) (vs : List Value) (gs : List G) (w : World) (gv : Value) : Prop where
  ge : B ≤ b
  len : vs.length = gs.length
  at_ : w.heap[b]? = some (.cells #[.int .i64 0, gv, .int .i64 s] 142 (0, 0))
  own : w.ownsRow B 47 1 gv vs.length vs
  ne : gv.ownBlock ≠ some b
  kids : ∀ i (hi : i < gs.length), TAt (hole (collX B b gv) w) (vs.getD i undef) gs[i]
theorem ownBlock_lt {w : World} {B : Nat} {e : TypeId} {v : Value} {n : Nat} {xs : List Value} (h : w.ownsRow B e 1 v n xs) {g : Nat} (hg : v.ownBlock = some g) : B ≤ g ∧ g < w.heap.size := by
  rcases h.2 with ⟨rfl, _⟩ | ⟨g', cap, cur, rfl, h1, h2, _⟩
  · simp [Value.ownBlock] at hg
  · simp [Value.ownBlock] at hg
    subst hg
    exact ⟨h1, (Array.getElem?_eq_some_iff.1 h2).1⟩
theorem Coll.still {B b : Nat} {s : Int} {vs : List Value} {gs : List G} {w w' : World} {gv : Value} (h : Coll B b s vs gs w gv) (hb : Below w.heap.size w w') : Coll B b s vs gs w' gv :=
  ⟨h.ge, h.len, (hb.block b (Array.getElem?_eq_some_iff.1 h.at_).1).trans h.at_, ownsRow_still h.own hb, h.ne, fun i hi => (h.kids i hi).mono (Sub.hole fun k _ hk hX => ⟨hX, (hb.block k (Array.getElem?_eq_some_iff.1 hk).1).trans hk⟩)⟩
/-- A geometry of new blocks is apart from a collection that stood before. -/
theorem Coll.apart {B b : Nat} {s : Int} {vs : List Value} {gs : List G} {w w' : World} {gv : Value} (h : Coll B b s vs gs w gv) (hBw : B ≤ w.heap.size) {v : Value} {g : G} (hv : TAt (hole (oldB w.heap.size) w') v g) : TAt (hole (collX B b gv) w') v g :=
  hv.mono (Sub.hole fun k _ hk hX => by
    have h1 := oldB_inv hX
    have h2 := (Array.getElem?_eq_some_iff.1 h.at_).1
    refine ⟨collX_mk (by omega) (by omega) fun h3 => ?_, hk⟩
    have := (ownBlock_lt h.own h3).2
    omega)

/-- What a push leaves. -/
def PushRet (B b : Nat) (s : Int) (vs : List Value) (gs : List G) (v : Value) (g : G) (r : Value) (w : World) (e : Ending) (w' : World) : Prop := e = .returned r ∧ (∃ gv, Coll B b s (vs ++ [v]) (gs ++ [g]) w' gv) ∧ Below B w w'

set_option maxRecDepth 100000 in
set_option maxHeartbeats 2000000 in
theorem push69 (B b : Nat) (s : Int) (vs : List Value) (gs : List G) (w : World) (gv : Value) (h : Coll B b s vs gs w gv) (hBw : B ≤ w.heap.size) (v : Value) (g : G) (hv : TAt (hole (collX B b gv) w) v g) (pb : Nat) (hp : w.cell? ⟨pb, 0, none⟩ = some v) (hl : vs.length ≤ 2097152) :
    Calls Tryz.prog 69 #[.pointer (some ⟨b, 0, none⟩), .slice (some ⟨pb, 0, none⟩) 1 1] w (PushRet B b s vs gs v g .nilIface w) := by
  obtain ⟨i0, hi, hz0, hz1, hz2⟩ := info_parts info47
  obtain ⟨h1, h2, h4, h5, h6, h7⟩ := h
  have hlt := (Array.getElem?_eq_some_iff.1 h4).1
  have hv1 : v.oneCell' = true := by
    obtain ⟨_, _, rfl⟩ := hv.form
    rfl
  have c0 : w.cell? ⟨b, 0, none⟩ = some (.int .i64 0) := Lib.cell_of_heap h4 0
  have c1 : w.cell? ⟨b, 1, none⟩ = some gv := Lib.cell_of_heap h4 1
  obtain ⟨a3, n3, cc3, rfl⟩ : ∃ a n c, gv = Value.slice a n c := by
    rcases h5.2 with ⟨hv, _⟩ | ⟨g, cap, cur, hv, _⟩
    · exact ⟨_, _, _, hv⟩
    · exact ⟨_, _, _, hv⟩
  have H4 := Lib.hid h4
  have H5 := Lib.hid h5
  have H7 := Lib.hid h7
  have HV := Lib.hid hv
  have H2 := Lib.hid h2
  have H6 := Lib.hid h6
  have HV1 := Lib.hid hv1
  have HP : Hid (∀ j u, [v][j]? = some u → w.cell? ((⟨pb, 0, none⟩ : Addr).add j) = some u) := Lib.hid fun j u hj => by
    match j, hj with
    | 0, hj => simp at hj; subst hj; simpa [Addr.add] using hp
  clear h4 h5 hp h7 hv h2 h6 hv1
  go_enter Tryz.func69, Tryz.ntmps69
  go_wp2_with (at_builtin; refine wpList_append_own_at _ rfl _ _ 137 rfl B 47 i0 .nilIface 1 16 Tryz.underlying137 hi hz0 hz1 hz2 rfl (by decide) _ vs.length vs rfl H5.out ⟨pb, 0, none⟩ 1 1 [v] rfl rfl HP.out (by intro u hu; simp at hu; subst hu; exact HV1.out) (by unfold maxLen; omega) (by omega) (by omega) ?_)
  intro v6 w2 hown2 hgrow2 _ hat2
  obtain ⟨a6, n6, c6, rfl⟩ : ∃ a n c, v6 = Value.slice a n c := by
    rcases hown2.2 with ⟨hv, _⟩ | ⟨g, cap, cur, hv, _⟩
    · exact ⟨_, _, _, hv⟩
    · exact ⟨_, _, _, hv⟩
  have hb2 : w2.heap[b]? = some (.cells #[.int .i64 0, .slice a3 n3 cc3, .int .i64 s] 142 (0, 0)) := (hgrow2.block b hlt (fun e => H6.out e.symm)).trans H4.out
  have d1 : w2.cell? ⟨b, 1, none⟩ = some (.slice a3 n3 cc3) := Lib.cell_of_heap hb2 1
  have f1 : w2.frozen? ⟨b, 1, none⟩ = false := Lib.frozen_of_heap hb2 1
  have HO2 := Lib.hid hown2
  have HG2 : Hid (w.grownBy w2 (Value.slice a3 n3 cc3).ownBlock) := Lib.hid hgrow2
  have HAT : Hid ((Value.slice a6 n6 c6).ownBlock = (Value.slice a3 n3 cc3).ownBlock ∨ (Value.slice a6 n6 c6).ownBlock = some w.heap.size) := Lib.hid hat2
  have HB2 := Lib.hid hb2
  clear hown2 hgrow2 hat2 hb2
  go_wp2_with (fail)
  go_ret
  have hne : (Value.slice a6 n6 c6).ownBlock ≠ some b := by
    rcases HAT.out with h | h
    · rw [h]
      exact H6.out
    · rw [h]
      intro e
      injection e with e
      omega
  have hset : (w2.setCell ⟨b, 1, none⟩ (.slice a6 n6 c6)).heap[b]? = some (.cells #[.int .i64 0, .slice a6 n6 c6, .int .i64 s] 142 (0, 0)) := by
    simp [World.setCell, Array.getElem?_modify, HB2.out]
  have hoth : ∀ k, k ≠ b → (w2.setCell ⟨b, 1, none⟩ (.slice a6 n6 c6)).heap[k]? = w2.heap[k]? := fun k hk => Below.heap_setCell _ _ _ _ (fun e => hk (by simp [e]))
  have hsub : Sub (hole (collX B b (.slice a3 n3 cc3)) w) (hole (collX B b (.slice a6 n6 c6)) (w2.setCell ⟨b, 1, none⟩ (.slice a6 n6 c6))) := Sub.hole fun k o hk hX => by
    obtain ⟨x1, x2, x3⟩ := collX_no hX
    have hkl := (Array.getElem?_eq_some_iff.1 hk).1
    refine ⟨collX_mk x1 x2 ?_, ?_⟩
    · rcases HAT.out with h | h
      · rw [h]
        exact x3
      · rw [h]
        intro e
        injection e with e
        omega
    · rw [hoth k x2, HG2.out.block k hkl (fun e => x3 e.symm)]
      exact hk
  refine ⟨rfl, ⟨_, h1, by rw [List.length_append, List.length_append, H2.out]; rfl, hset, ?_, hne, fun i hi => ?_⟩, ?_⟩
  · rw [List.length_append]
    refine HO2.out.kept (row := some b) ⟨rfl, rfl, rfl, by simp [World.setCell], fun k _ hk => hoth k (fun e => hk (by simp [e]))⟩ (Or.inr hne)
  · rcases Nat.lt_or_ge i gs.length with h3 | h3
    · have e1 : (vs ++ [v]).getD i undef = vs.getD i undef := by
        rw [List.getD_eq_getElem?_getD, List.getD_eq_getElem?_getD, List.getElem?_append_left (by rw [H2.out]; exact h3)]
      rw [e1, List.getElem_append_left h3]
      exact (H7.out i h3).mono hsub
    · have h4 : i = gs.length := by simp at hi; omega
      subst h4
      have e1 : (vs ++ [v]).getD gs.length undef = v := by
        rw [List.getD_eq_getElem?_getD, List.getElem?_append_right (by rw [H2.out]; exact Nat.le_refl _), H2.out, Nat.sub_self]
        rfl
      have e2 : (gs ++ [g])[gs.length] = g := by simp
      rw [e1, e2]
      exact HV.out.mono hsub
  · exact ((Below.refl B w).grown HG2.out hBw (fun k hk => (ownBlock_lt H5.out hk).1)).setCell (p := ⟨b, 1, none⟩) h1 _

/-- MustPush. -/
theorem mustPush44 (B b : Nat) (s : Int) (vs : List Value) (gs : List G) (w : World) (gv : Value) (h : Coll B b s vs gs w gv) (hBw : B ≤ w.heap.size) (v : Value) (g : G) (hv : TAt (hole (collX B b gv) w) v g) (pb : Nat) (hp : w.cell? ⟨pb, 0, none⟩ = some v) (hl : vs.length ≤ 2097152) :
    Calls Tryz.prog 44 #[.pointer (some ⟨b, 0, none⟩), .slice (some ⟨pb, 0, none⟩) 1 1] w (PushRet B b s vs gs v g (.pointer (some ⟨b, 0, none⟩)) w) := by
  have H := Lib.hid (push69 B b s vs gs w gv h hBw v g hv pb hp hl)
  clear h hv hp
  go_enter Tryz.func44, Tryz.ntmps44
  go_wp2_with (fail)
  refine H.out.mono ?_
  rintro e w1 ⟨rfl, hC, hB⟩
  have HC := Lib.hid hC
  have HB := Lib.hid hB
  clear hC hB
  go_wp2_with (fail)
  go_ret
  exact ⟨rfl, HC.out, HB.out⟩

set_option maxHeartbeats 1000000 in
/-- CheckLayout: every part is of the layout, or none is asked. -/
theorem check77 (w0 : World) (b : Nat) (L : Int) (vs : List Value) (gs : List G) (gv : Value) (hlen : vs.length = gs.length) (hb : w0.cell? ⟨b, 1, none⟩ = some gv) (hg : RowAt w0 gv vs.length 1 (fun i _ => vs.getD i undef))
    (hc : ∀ i (hi : i < gs.length), LayC w0 (vs.getD i undef) gs[i]) (hL : ∀ i (hi : i < gs.length), L = 0 ∨ layT gs[i] = L) :
    Calls Tryz.prog 77 #[.pointer (some ⟨b, 0, none⟩), .int .i64 L] w0 (Same .nilIface w0) := by
  by_cases h0 : L = 0
  · subst h0
    clear hc hL hg
    go_enter Tryz.func77, Tryz.ntmps77
    go_wp2_with (fail)
    go_ret
    exact ⟨rfl, rfl⟩
  · have h0' : (L == 0) = false := beq_false_of_ne h0
    obtain ⟨A, cap, rfl, hn0, hn1, _⟩ := id hg
    unfold maxLen at hn1
    obtain ⟨n, hn⟩ : ∃ n, vs.length = n := ⟨_, rfl⟩
    rw [hn] at hn0 hg hb
    have HC := Lib.hid hc
    have HLN := Lib.hid (hlen.symm.trans hn)
    have HG := Lib.hid hg
    have HLL : Hid (∀ i (hi : i < gs.length), layT gs[i] = L) := Lib.hid fun i hi => (hL i hi).resolve_left h0
    clear hc hlen hg hL hn h0
    go_enter Tryz.func77, Tryz.ntmps77
    go_wp2_with (fail)
    go_loopg [15] n (fun gk vc wr => w0 = wr ∧ ∃ i : Nat, i + gk = n ∧ vc = .int .i64 i)
    case atStart => exact ⟨rfl, 0, by omega, rfl⟩
    case round =>
      obtain ⟨rfl, i, hi, rfl⟩ := hrel
      by_cases hlt : i < n
      · have HI := Lib.hid hi
        have hil : i < gs.length := by rw [HLN.out]; exact hlt
        obtain ⟨bb, o, rfl, _, hx⟩ := HG.out.one hlt
        obtain ⟨T, K, kb, hv, hm, he, hcall⟩ := HC.out i hil
        rw [HLL.out i hil] at hcall
        rw [hv] at hx
        have HCALL := Lib.hid (hcall w0 (Below.refl _ _))
        clear hi hv hcall
        go_wp2_with (fail)
        refine HCALL.out.mono ?_
        rintro e1 w1 ⟨rfl, rfl⟩
        go_wp2_with (fail)
        go_roundg (n - (i + 1))
        case measure => have := HI.out; omega
        case rel => exact ⟨rfl, i + 1, by omega, by go_num⟩
      · have ei : i = n := by omega
        subst ei
        clear hi
        go_wp2_with (fail)
        go_ret
        exact ⟨rfl, rfl⟩
theorem setLayout70 (w0 : World) (b : Nat) (L x : Int) (hck : Calls Tryz.prog 77 #[.pointer (some ⟨b, 0, none⟩), .int .i64 L] w0 (Same .nilIface w0)) (h0 : w0.cell? ⟨b, 0, none⟩ = some (.int .i64 x)) (hf : w0.frozen? ⟨b, 0, none⟩ = false) :
    Calls Tryz.prog 70 #[.pointer (some ⟨b, 0, none⟩), .int .i64 L] w0 fun e w' => e = .returned .nilIface ∧ w0.setCell ⟨b, 0, none⟩ (.int .i64 L) = w' := by
  have H := Lib.hid hck
  clear hck
  go_enter Tryz.func70, Tryz.ntmps70
  go_wp2_with (go_at_call 77; refine H.out.mono ?_; rintro e w' ⟨rfl, rfl⟩)
  go_ret
  exact ⟨rfl, rfl⟩
theorem mustSet45 (w0 : World) (b : Nat) (L x : Int) (hck : Calls Tryz.prog 77 #[.pointer (some ⟨b, 0, none⟩), .int .i64 L] w0 (Same .nilIface w0)) (h0 : w0.cell? ⟨b, 0, none⟩ = some (.int .i64 x)) (hf : w0.frozen? ⟨b, 0, none⟩ = false) :
    Calls Tryz.prog 45 #[.pointer (some ⟨b, 0, none⟩), .int .i64 L] w0 (Put1 b 0 (.int .i64 L) w0) := by
  have H := Lib.hid (setLayout70 w0 b L x hck h0 hf)
  clear hck
  go_enter Tryz.func45, Tryz.ntmps45
  go_wp2_with (fail)
  refine H.out.mono ?_
  rintro e w' ⟨rfl, hw⟩
  have HW := Lib.hid hw
  clear hw
  go_wp2_with (fail)
  go_ret
  exact ⟨rfl, HW.out⟩
end Go.Proofs.YtokmamakmaojpaaGreatDoor

/-
  D0. A geometry's data as a plain tree, and how it lies in memory.
  V0. The guards: layouts.
  V1. The guards: the weight of a geometry.
  V2. The layout of a geometry.
-/
import Derived.Test.YtokmamakmaojpaaGreatDoorM07
import Derived.Lib.Builder
set_option linter.unusedVariables false
set_option linter.unusedSimpArgs false
/- D0. -/
namespace Go.Proofs.YtokmamakmaojpaaGreatDoor
open Go.RowKit

/-- A geometry: kind, layout, SRID; the numbers' bits; ends; rows of ends; parts. -/
inductive G where
  | mk (kind layout srid : Int) (flat : List Nat) (ends : List Int) (endss : List (List Int)) (kids : List G)
instance : Inhabited G := ⟨.mk 0 0 0 [] [] [] []⟩

mutual
theorem G.ind {P : G → Prop} (h : ∀ k l s f e es kids, (∀ i (hi : i < kids.length), P kids[i]) → P (.mk k l s f e es kids)) : ∀ g, P g
  | .mk k l s f e es kids => h k l s f e es kids (G.inds h kids)
theorem G.inds {P : G → Prop} (h : ∀ k l s f e es kids, (∀ i (hi : i < kids.length), P kids[i]) → P (.mk k l s f e es kids)) : ∀ (l : List G) i (hi : i < l.length), P l[i]
  | [], _, hi => absurd hi (by simp)
  | g :: _, 0, _ => G.ind h g
  | _ :: gs, i + 1, hi => G.inds h gs i (by simpa using hi)
end

/-- A slice of n elements of sz cells each, the cells of element i being f i. -/
def RowAt (w : World) (v : Value) (n sz : Nat) (f : Nat → Nat → Value) : Prop :=
  ∃ A cap, v = .slice A n cap ∧ n ≤ cap ∧ cap ≤ maxLen ∧ (0 < n → ∃ b o, A = some ⟨b, o, none⟩ ∧ b < w.heap.size ∧ ∀ i j, i < n → j < sz → w.cell? ⟨b, o + i * sz + j, none⟩ = some (f i j))
theorem RowAt.below {w w' : World} {v : Value} {n sz : Nat} {f : Nat → Nat → Value} (h : RowAt w v n sz f) {B : Nat} (hB : w.heap.size ≤ B) (hb : Below B w w') : RowAt w' v n sz f := by
  obtain ⟨A, cap, h1, h2, h3, h4⟩ := h
  refine ⟨A, cap, h1, h2, h3, fun hn => ?_⟩
  obtain ⟨b, o, h5, h6, h7⟩ := h4 hn
  exact ⟨b, o, h5, Nat.lt_of_lt_of_le h6 hb.size, fun i j hi hj => (hb.cell (p := ⟨b, o + i * sz + j, none⟩) (by show b < B; omega)).trans (h7 i j hi hj)⟩
theorem RowAt.nil (w : World) (sz : Nat) (f : Nat → Nat → Value) : RowAt w (.slice none 0 0) 0 sz f := ⟨none, 0, rfl, Nat.le_refl _, Nat.zero_le _, fun h => absurd h (by omega)⟩
theorem RowAt.congr {w : World} {v : Value} {n sz : Nat} {f g : Nat → Nat → Value} (h : RowAt w v n sz f) (e : ∀ i j, i < n → j < sz → f i j = g i j) : RowAt w v n sz g := by
  obtain ⟨A, cap, h1, h2, h3, h4⟩ := h
  refine ⟨A, cap, h1, h2, h3, fun hn => ?_⟩
  obtain ⟨b, o, h5, h6, h7⟩ := h4 hn
  exact ⟨b, o, h5, h6, fun i j hi hj => (h7 i j hi hj).trans (congrArg some (e i j hi hj))⟩

/-- A number that an int64 holds. -/
def RngI (z : Int) : Prop := -9223372036854775808 ≤ z ∧ z ≤ 9223372036854775807
def fltC (l : List Nat) : Nat → Nat → Value := fun i _ => .float .f64 (l.getD i 0)
def intC (l : List Int) : Nat → Nat → Value := fun i _ => .int .i64 (l.getD i 0)
/-- What the numbers of a geometry are by their types. -/
structure GRng (kind layout srid : Int) (flat : List Nat) (ends : List Int) (endss : List (List Int)) : Prop where
  kind : RngI kind
  layout : RngI layout
  srid : RngI srid
  flat : ∀ x ∈ flat, x < 18446744073709551616
  ends : ∀ e ∈ ends, RngI e
  endss : ∀ l ∈ endss, ∀ e ∈ l, RngI e

/-- The seven cells of a geometry in memory. -/
inductive GAt (w : World) : (Nat → Value) → G → Prop
  | mk (kind layout srid : Int) (flat : List Nat) (ends : List Int) (endss : List (List Int)) (kids : List G) (c : Nat → Value) (ev : Nat → Value) (kc : Nat → Nat → Value)
      (hr : GRng kind layout srid flat ends endss)
      (h0 : c 0 = .int .i64 kind) (h1 : c 1 = .int .i64 layout) (h2 : c 2 = .int .i64 srid)
      (h3 : RowAt w (c 3) flat.length 1 (fltC flat)) (h4 : RowAt w (c 4) ends.length 1 (intC ends))
      (h5 : RowAt w (c 5) endss.length 1 (fun i _ => ev i)) (h5' : ∀ i, i < endss.length → RowAt w (ev i) (endss.getD i []).length 1 (intC (endss.getD i [])))
      (h6 : RowAt w (c 6) kids.length 7 kc) (h7 : ∀ i (hi : i < kids.length), GAt w (kc i) kids[i]) : GAt w c (.mk kind layout srid flat ends endss kids)
theorem GAt.stays {w w' : World} {B : Nat} (hB : w.heap.size ≤ B) (hb : Below B w w') {c : Nat → Value} {g : G} (h : GAt w c g) : GAt w' c g := by
  induction h with
  | mk kind layout srid flat ends endss kids c ev kc hr h0 h1 h2 h3 h4 h5 h5' h6 h7 ih =>
    exact .mk kind layout srid flat ends endss kids c ev kc hr h0 h1 h2 (h3.below hB hb) (h4.below hB hb) (h5.below hB hb) (fun i hi => (h5' i hi).below hB hb) (h6.below hB hb) ih
theorem GAt.congr {w : World} {c c' : Nat → Value} {g : G} (h : GAt w c g) (e : ∀ i, i < 7 → c i = c' i) : GAt w c' g := by
  cases h with
  | mk kind layout srid flat ends endss kids _ ev kc hr h0 h1 h2 h3 h4 h5 h5' h6 h7 =>
    exact .mk kind layout srid flat ends endss kids c' ev kc hr ((e 0 (by omega)).symm.trans h0) ((e 1 (by omega)).symm.trans h1) ((e 2 (by omega)).symm.trans h2) (by rw [← e 3 (by omega)]; exact h3) (by rw [← e 4 (by omega)]; exact h4) (by rw [← e 5 (by omega)]; exact h5) h5' (by rw [← e 6 (by omega)]; exact h6) h7

/-- A geometry by value, opened. -/
structure GOpen (w : World) (k l s : Int) (f : List Nat) (e : List Int) (es : List (List Int)) (kids : List G) (A3 A4 A5 A6 : Option Addr) (c3 c4 c5 c6 : Nat) : Prop where
  rng : GRng k l s f e es
  flat : RowAt w (.slice A3 f.length c3) f.length 1 (fltC f)
  ends : RowAt w (.slice A4 e.length c4) e.length 1 (intC e)
  endss : ∃ ev : Nat → Value, RowAt w (.slice A5 es.length c5) es.length 1 (fun i _ => ev i) ∧ ∀ i, i < es.length → RowAt w (ev i) (es.getD i []).length 1 (intC (es.getD i []))
  kids : ∃ kc : Nat → Nat → Value, RowAt w (.slice A6 kids.length c6) kids.length 7 kc ∧ ∀ i (hi : i < kids.length), GAt w (kc i) kids[i]
theorem GAt.open_ {w : World} {c : Nat → Value} {k l s : Int} {f : List Nat} {e : List Int} {es : List (List Int)} {kids : List G} (h : GAt w c (.mk k l s f e es kids)) :
    ∃ A3 A4 A5 A6 c3 c4 c5 c6, c 0 = .int .i64 k ∧ c 1 = .int .i64 l ∧ c 2 = .int .i64 s ∧ c 3 = .slice A3 f.length c3 ∧ c 4 = .slice A4 e.length c4 ∧ c 5 = .slice A5 es.length c5 ∧ c 6 = .slice A6 kids.length c6 ∧
      GOpen w k l s f e es kids A3 A4 A5 A6 c3 c4 c5 c6 := by
  cases h with
  | mk _ _ _ _ _ _ _ _ ev kc hr h0 h1 h2 h3 h4 h5 h5' h6 h7 =>
    have g3 := h3; have g4 := h4; have g5 := h5; have g6 := h6
    obtain ⟨A3, c3, e3, _⟩ := g3
    obtain ⟨A4, c4, e4, _⟩ := g4
    obtain ⟨A5, c5, e5, _⟩ := g5
    obtain ⟨A6, c6, e6, _⟩ := g6
    rw [e3] at h3
    rw [e4] at h4
    rw [e5] at h5
    rw [e6] at h6
    exact ⟨A3, A4, A5, A6, c3, c4, c5, c6, h0, h1, h2, e3, e4, e5, e6, hr, h3, h4, ⟨ev, h5, h5'⟩, ⟨kc, h6, h7⟩⟩
theorem RowAt.le {w : World} {A : Option Addr} {n cap m sz : Nat} {f : Nat → Nat → Value} (h : RowAt w (.slice A n cap) m sz f) : n ≤ cap ∧ cap ≤ 9223372036854775807 := by
  obtain ⟨A', cap', h1, h2, h3, _⟩ := h
  injection h1 with _ h1 h1'
  subst h1 h1'
  exact ⟨h2, h3⟩
theorem RowAt.at_ {w : World} {A : Option Addr} {n cap sz : Nat} {f : Nat → Nat → Value} (h : RowAt w (.slice A n cap) n sz f) {i : Nat} (hi : i < n) :
    ∃ b o, A = some ⟨b, o, none⟩ ∧ b < w.heap.size ∧ ∀ i j, i < n → j < sz → w.cell? ⟨b, o + i * sz + j, none⟩ = some (f i j) := by
  obtain ⟨A', cap', h1, h2, h3, h4⟩ := h
  injection h1 with h1 _ _
  subst h1
  exact h4 (by omega)
/-- The seven cells of an element, spelled as the walk spells them. -/
theorem RowAt.seven {w : World} {A : Option Addr} {n cap : Nat} {f : Nat → Nat → Value} (h : RowAt w (.slice A n cap) n 7 f) {i : Nat} (hi : i < n) :
    ∃ b o, A = some ⟨b, o, none⟩ ∧ b < w.heap.size ∧ w.cell? ⟨b, o + i * 7, none⟩ = some (f i 0) ∧ w.cell? ⟨b, o + i * 7 + 1, none⟩ = some (f i 1) ∧ w.cell? ⟨b, o + i * 7 + 2, none⟩ = some (f i 2) ∧
      w.cell? ⟨b, o + i * 7 + 3, none⟩ = some (f i 3) ∧ w.cell? ⟨b, o + i * 7 + 4, none⟩ = some (f i 4) ∧ w.cell? ⟨b, o + i * 7 + 5, none⟩ = some (f i 5) ∧ w.cell? ⟨b, o + i * 7 + 6, none⟩ = some (f i 6) := by
  obtain ⟨b, o, h1, h2, h3⟩ := h.at_ hi
  exact ⟨b, o, h1, h2, h3 i 0 hi (by omega), h3 i 1 hi (by omega), h3 i 2 hi (by omega), h3 i 3 hi (by omega), h3 i 4 hi (by omega), h3 i 5 hi (by omega), h3 i 6 hi (by omega)⟩
/-- The one cell of an element. -/
theorem RowAt.one {w : World} {A : Option Addr} {n cap : Nat} {f : Nat → Nat → Value} (h : RowAt w (.slice A n cap) n 1 f) {i : Nat} (hi : i < n) :
    ∃ b o, A = some ⟨b, o, none⟩ ∧ b < w.heap.size ∧ w.cell? ⟨b, o + i, none⟩ = some (f i 0) := by
  obtain ⟨b, o, h1, h2, h3⟩ := h.at_ hi
  have := h3 i 0 hi (by omega)
  rw [Nat.mul_one] at this
  exact ⟨b, o, h1, h2, this⟩
/-- A geometry by value, by the kinds of its cells alone. -/
theorem GAt.cells {w : World} {c : Nat → Value} {g : G} (h : GAt w c g) : ∃ k l s A3 n3 c3 A4 n4 c4 A5 n5 c5 A6 n6 c6, c 0 = .int .i64 k ∧ c 1 = .int .i64 l ∧ c 2 = .int .i64 s ∧
    c 3 = .slice A3 n3 c3 ∧ c 4 = .slice A4 n4 c4 ∧ c 5 = .slice A5 n5 c5 ∧ c 6 = .slice A6 n6 c6 := by
  cases g with
  | mk k l s f e es kids =>
    obtain ⟨A3, A4, A5, A6, c3, c4, c5, c6, e0, e1, e2, e3, e4, e5, e6, _⟩ := h.open_
    exact ⟨k, l, s, A3, _, c3, A4, _, c4, A5, _, c5, A6, _, c6, e0, e1, e2, e3, e4, e5, e6⟩
/-- A part among the parts of a geometry: its cells in memory, and what a call of it is known to do. -/
theorem kid_at {w wr : World} {A : Option Addr} {n cap i : Nat} {kc : Nat → Nat → Value} {g : G} (hB : Below w.heap.size w wr) (hk : RowAt w (.slice A n cap) n 7 kc) (hi : i < n) (hg : GAt w (kc i) g)
    {R : Value → World → Prop} (hR : ∀ (c : Nat → Value) (w' : World), GAt w' c g → R (.agg #[c 0, c 1, c 2, c 3, c 4, c 5, c 6]) w') :
    ∃ b o k l s A3 n3 c3 A4 n4 c4 A5 n5 c5 A6 n6 c6, A = some ⟨b, o, none⟩ ∧ b < w.heap.size ∧ wr.cell? ⟨b, o + i * 7, none⟩ = some (.int .i64 k) ∧ wr.cell? ⟨b, o + i * 7 + 1, none⟩ = some (.int .i64 l) ∧ wr.cell? ⟨b, o + i * 7 + 2, none⟩ = some (.int .i64 s) ∧
      wr.cell? ⟨b, o + i * 7 + 3, none⟩ = some (.slice A3 n3 c3) ∧ wr.cell? ⟨b, o + i * 7 + 4, none⟩ = some (.slice A4 n4 c4) ∧ wr.cell? ⟨b, o + i * 7 + 5, none⟩ = some (.slice A5 n5 c5) ∧ wr.cell? ⟨b, o + i * 7 + 6, none⟩ = some (.slice A6 n6 c6) ∧
      Hid (∀ w', Below w.heap.size w w' → R (.agg #[.int .i64 k, .int .i64 l, .int .i64 s, .slice A3 n3 c3, .slice A4 n4 c4, .slice A5 n5 c5, .slice A6 n6 c6]) w') := by
  obtain ⟨b, o, hA, hb, _⟩ := hk.at_ hi
  obtain ⟨b', o', hA', _, h0, h1, h2, h3, h4, h5, h6⟩ := (hk.below (Nat.le_refl _) hB).seven hi
  rw [hA] at hA'
  injection hA' with hA'
  injection hA' with hb' ho'
  subst hb' ho'
  obtain ⟨k, l, s, A3, n3, c3, A4, n4, c4, A5, n5, c5, A6, n6, c6, e0, e1, e2, e3, e4, e5, e6⟩ := hg.cells
  rw [e0] at h0
  rw [e1] at h1
  rw [e2] at h2
  rw [e3] at h3
  rw [e4] at h4
  rw [e5] at h5
  rw [e6] at h6
  refine ⟨b, o, k, l, s, A3, n3, c3, A4, n4, c4, A5, n5, c5, A6, n6, c6, hA, hb, h0, h1, h2, h3, h4, h5, h6, Lib.hid fun w' hw => ?_⟩
  have := hR (kc i) w' (hg.stays (Nat.le_refl _) hw)
  rw [e0, e1, e2, e3, e4, e5, e6] at this
  exact this
/-- The cells of a new block, behind whatever leaves it. -/
theorem new_cell {w w1 : World} {cs : Array Value} {T : TypeId} {B : Nat} (hB : w.heap.size < B) (h : Below B (w.alloc (.cells cs T)) w1) (j : Nat) : w1.cell? ⟨w.heap.size, j, none⟩ = cs[j]? :=
  (h.cell (p := ⟨w.heap.size, j, none⟩) hB).trans (Lib.cell_of_heap (heap_alloc_new w _) j)
theorem box_cells {w w1 : World} {a0 a1 a2 a3 a4 a5 a6 : Value} {T : TypeId} (h : Below (w.alloc (.cells #[a0, a1, a2, a3, a4, a5, a6] T)).heap.size (w.alloc (.cells #[a0, a1, a2, a3, a4, a5, a6] T)) w1) :
    w1.cell? ⟨w.heap.size, 0, none⟩ = some a0 ∧ w1.cell? ⟨w.heap.size, 1, none⟩ = some a1 ∧ w1.cell? ⟨w.heap.size, 2, none⟩ = some a2 ∧ w1.cell? ⟨w.heap.size, 3, none⟩ = some a3 ∧
      w1.cell? ⟨w.heap.size, 4, none⟩ = some a4 ∧ w1.cell? ⟨w.heap.size, 5, none⟩ = some a5 ∧ w1.cell? ⟨w.heap.size, 6, none⟩ = some a6 := by
  have h0 : w.heap.size < (w.alloc (.cells #[a0, a1, a2, a3, a4, a5, a6] T)).heap.size := by simp
  exact ⟨new_cell h0 h 0, new_cell h0 h 1, new_cell h0 h 2, new_cell h0 h 3, new_cell h0 h 4, new_cell h0 h 5, new_cell h0 h 6⟩
/-- The cells of a block, behind whatever leaves it. -/
theorem old_cells {w w1 : World} {b B : Nat} {a0 a1 a2 a3 a4 a5 a6 : Value} {T : TypeId} {fz : Nat × Nat} (h0 : w.heap[b]? = some (.cells #[a0, a1, a2, a3, a4, a5, a6] T fz)) (hb : b < B) (h : Below B w w1) :
    w1.cell? ⟨b, 0, none⟩ = some a0 ∧ w1.cell? ⟨b, 1, none⟩ = some a1 ∧ w1.cell? ⟨b, 2, none⟩ = some a2 ∧ w1.cell? ⟨b, 3, none⟩ = some a3 ∧
      w1.cell? ⟨b, 4, none⟩ = some a4 ∧ w1.cell? ⟨b, 5, none⟩ = some a5 ∧ w1.cell? ⟨b, 6, none⟩ = some a6 := by
  have h1 := fun j => (h.cell (p := ⟨b, j, none⟩) hb).trans (Lib.cell_of_heap h0 j)
  exact ⟨h1 0, h1 1, h1 2, h1 3, h1 4, h1 5, h1 6⟩
/-- A slot that a guarded operation has left aside yields nothing. -/
theorem no_yield : Go.yielded.match_1 (fun _ => Option Bool) (some undef) (fun b => some b) (fun _ => none) = none := rfl
end Go.Proofs.YtokmamakmaojpaaGreatDoor

/- V0. -/
namespace Go.Proofs.YtokmamakmaojpaaGreatDoor
open Go.RowKit

mutual
/-- All layouts are from XY (of collections: from none) to most. -/
def layB (m : Int) : G → Bool
  | .mk k l _ _ _ _ kids => layBs m kids && (decide (l ≤ m) && (decide (1 ≤ l) || (decide (k = 7) && decide (0 ≤ l))))
def layBs (m : Int) : List G → Bool
  | [] => true
  | g :: gs => layB m g && layBs m gs
end
theorem layBs_drop (m : Int) (l : List G) (i : Nat) (h : i < l.length) : layBs m (l.drop i) = (layB m l[i] && layBs m (l.drop (i + 1))) := by
  rw [List.drop_eq_getElem_cons h]
  rfl

set_option maxHeartbeats 1000000 in
theorem fmLayouts5 (m : Int) (hm0 : 0 ≤ m) (hm1 : m ≤ 9) (g : G) : ∀ (c : Nat → Value) (w : World), GAt w c g →
    Calls Tryz.prog 5 #[.agg #[c 0, c 1, c 2, c 3, c 4, c 5, c 6], .int .i64 m] w (Ret (.bool (layB m g)) w) := by
  induction g using G.ind with
  | h k l s f e es kids ih =>
    intro c w hg
    obtain ⟨A3, A4, A5, A6, c3, c4, c5, c6, e0, e1, e2, e3, e4, e5, e6, ho⟩ := hg.open_
    rw [e0, e1, e2, e3, e4, e5, e6]
    obtain ⟨kc, hk, hkids⟩ := ho.kids
    obtain ⟨hl0, hl1⟩ := hk.le
    have HKID := Lib.hid hkids

    have HIH := Lib.hid ih
    obtain ⟨n, hn⟩ : ∃ n, kids.length = n := ⟨_, rfl⟩
    have HN := Lib.hid hn
    rw [hn] at hl0 hk ⊢
    have HK := Lib.hid hk
    clear e0 e1 e2 e3 e4 e5 e6 hg ho hkids hk ih hn
    go_enter Tryz.func5, Tryz.ntmps5
    go_wp2_with (fail)
    go_loopg [10] n (fun gk v10 wr => ∃ i : Nat, i + gk = n ∧ v10 = .int .i64 i ∧ Below (w.heap.size + 1) (w.alloc (.cells #[Value.int .i64 k, Value.int .i64 l, Value.int .i64 s, Value.slice A3 f.length c3, Value.slice A4 e.length c4, Value.slice A5 es.length c5, Value.slice A6 n c6] 28)) wr ∧ Hid (layBs m kids = layBs m (kids.drop i)))
    case atStart => exact ⟨0, by omega, rfl, Below.refl _ _, Lib.hid rfl⟩
    case round =>
      obtain ⟨i, hi, rfl, hB, hL⟩ := hrel
      by_cases hlt : i < n
      · have HI := Lib.hid hi
        have hB0 : Below w.heap.size w wr := ((Below.refl _ w).alloc (Nat.le_refl _) _).trans (hB.mono (by omega))
        have hD := layBs_drop m kids i (by rw [HN.out]; exact hlt)
        have hR := fun c w' h => HIH.out i (by rw [HN.out]; exact hlt) c w' h
        obtain ⟨r, hr⟩ : ∃ r, layB m (kids[i]'(by rw [HN.out]; exact hlt)) = r := ⟨_, rfl⟩
        rw [hr] at hD
        simp only [hr] at hR
        obtain ⟨b, o, k', l', s', A3', n3, d3, A4', n4, d4, A5', n5, d5, A6', n6, d6, rfl, hb, h0, h1, h2, h3, h4, h5, h6, HC⟩ :=
          kid_at hB0 HK.out hlt (HKID.out i (by rw [HN.out]; exact hlt)) (R := fun v w' => Calls Tryz.prog 5 #[v, .int .i64 m] w' (Ret (.bool r) w')) hR
        have HSZ : Hid (w.heap.size + 1 ≤ wr.heap.size) := Lib.hid (by simpa using hB.size)
        have HB := Lib.hid hB
        have HB0 := Lib.hid hB0
        have HD := Lib.hid hD
        clear hi hB hB0 hr hR hD
        cases r with
        | false =>
          go_wp2_with (go_at_call 5; refine (HC.out _ (HB0.out.alloc HB0.out.size _)).mono ?_; rintro e w1 ⟨rfl, hB1⟩; have HB1 := Lib.hid hB1; clear hB1)
          go_ret
          refine ⟨?_, (HB0.out.alloc HB0.out.size _).trans (HB1.out.mono (by simp; have := HB0.out.size; omega))⟩
          rw [layB, hL.out, HD.out]
          rfl
        | true =>
          go_wp2_with (go_at_call 5; refine (HC.out _ (HB0.out.alloc HB0.out.size _)).mono ?_; rintro e w1 ⟨rfl, hB1⟩; have HB1 := Lib.hid hB1; clear hB1)
          go_roundg (n - (i + 1))
          case measure => have := HI.out; omega
          case rel =>
            exact ⟨i + 1, by omega, by go_num, (HB.out.alloc HSZ.out _).trans (HB1.out.mono (by simp; have := HSZ.out; omega)), Lib.hid (by rw [hL.out, HD.out]; rfl)⟩
      · have ei : i = n := by omega
        subst ei
        have HLL : Hid (layBs m kids = true) := Lib.hid (by rw [hL.out, ← HN.out, List.drop_length]; rfl)
        have c0 : wr.cell? ⟨w.heap.size, 0, none⟩ = some (.int .i64 k) := (hB.cell (p := ⟨w.heap.size, 0, none⟩) (by show w.heap.size < w.heap.size + 1; omega)).trans (by go_simp)
        have c1 : wr.cell? ⟨w.heap.size, 1, none⟩ = some (.int .i64 l) := (hB.cell (p := ⟨w.heap.size, 1, none⟩) (by show w.heap.size < w.heap.size + 1; omega)).trans (by go_simp)
        have HB0 : Hid (Below w.heap.size w wr) := Lib.hid (((Below.refl _ w).alloc (Nat.le_refl _) _).trans (hB.mono (by omega)))
        clear hB hL hi
        obtain ⟨x, hx⟩ : ∃ x, (decide (l ≤ m) && (decide (1 ≤ l) || (decide (k = 7) && decide (0 ≤ l)))) = x := ⟨_, rfl⟩
        have HX := Lib.hid hx
        clear hx
        by_cases a1 : l ≤ m
        · by_cases a2 : 1 ≤ l
          · go_wp2_with (fail)
            go_ret
            exact ⟨by rw [layB, HLL.out]; simp [a1, a2], HB0.out⟩
          · by_cases a3 : k = 7
            · subst a3
              by_cases a4 : 0 ≤ l
              · go_wp2_with (fail)
                go_ret
                exact ⟨by rw [layB, HLL.out]; simp [a1, a2, a4], HB0.out⟩
              · go_wp2_with (fail)
                go_ret
                exact ⟨by rw [layB, HLL.out]; simp [a1, a2, a4], HB0.out⟩
            · have a3' : (k == 7) = false := beq_false_of_ne a3
              go_wp2_with (fail)
              go_ret
              exact ⟨by rw [layB, HLL.out]; simp [a1, a2, a3], HB0.out⟩
        · go_wp2_with (fail)
          go_ret
          exact ⟨by rw [layB, HLL.out]; simp; intro h; omega, HB0.out⟩
end Go.Proofs.YtokmamakmaojpaaGreatDoor

/- V1. -/
namespace Go.Proofs.YtokmamakmaojpaaGreatDoor
open Go.RowKit

def rowsW : List (List Int) → Nat
  | [] => 0
  | l :: r => 1 + l.length + rowsW r
mutual
/-- How many parts, ends and numbers a geometry has. -/
def wgt : G → Nat
  | .mk _ _ _ f e es kids => 1 + f.length + e.length + rowsW es + wgts kids
def wgts : List G → Nat
  | [] => 0
  | g :: gs => wgt g + wgts gs
end
theorem rowsW_take (l : List (List Int)) : ∀ i, i < l.length → rowsW (l.take (i + 1)) = rowsW (l.take i) + (1 + (l.getD i []).length) := by
  induction l with
  | nil => intro i h; exact absurd h (by simp)
  | cons a r ih =>
    intro i h
    cases i with
    | zero => simp [rowsW]
    | succ i =>
      have := ih i (by simpa using h)
      simp only [List.take_succ_cons, rowsW, List.getD_cons_succ] at this ⊢
      omega
theorem rowsW_take_le (l : List (List Int)) : ∀ i, rowsW (l.take i) ≤ rowsW l := by
  induction l with
  | nil => intro i; simp
  | cons a r ih =>
    intro i
    cases i with
    | zero => simp [rowsW]
    | succ i =>
      have := ih i
      simp only [List.take_succ_cons, rowsW]
      omega
theorem wgts_take (l : List G) : ∀ i (h : i < l.length), wgts (l.take (i + 1)) = wgts (l.take i) + wgt l[i] := by
  induction l with
  | nil => intro i h; exact absurd h (by simp)
  | cons a r ih =>
    intro i h
    cases i with
    | zero => simp [wgts]
    | succ i =>
      have := ih i (by simpa using h)
      simp only [List.take_succ_cons, wgts, List.getElem_cons_succ] at this ⊢
      omega
theorem wgts_take_le (l : List G) : ∀ i, wgts (l.take i) ≤ wgts l := by
  induction l with
  | nil => intro i; simp
  | cons a r ih =>
    intro i
    cases i with
    | zero => simp [wgts]
    | succ i =>
      have := ih i
      simp only [List.take_succ_cons, wgts]
      omega
theorem wgt_pos : ∀ g : G, 1 ≤ wgt g
  | .mk .. => by unfold wgt; omega
theorem length_le_wgts : ∀ l : List G, l.length ≤ wgts l
  | [] => Nat.zero_le _
  | g :: gs => by
    have := length_le_wgts gs
    have := wgt_pos g
    simp only [List.length_cons, wgts]
    omega
theorem length_le_rowsW : ∀ l : List (List Int), l.length ≤ rowsW l
  | [] => Nat.zero_le _
  | a :: r => by
    have := length_le_rowsW r
    simp only [List.length_cons, rowsW]
    omega

/-- What Weight answers: at most the weight; and the weight itself where the answer is within the limit. -/
def WRet (W : Nat) (m : Int) (w : World) (e : Ending) (w' : World) : Prop := ∃ r : Nat, e = .returned (.int .i64 r) ∧ r ≤ W ∧ ((r : Int) ≤ m → r = W) ∧ Below w.heap.size w w'

set_option maxHeartbeats 1000000 in
theorem weight19 (g : G) : wgt g ≤ 2097152 → ∀ (m : Int), -4194304 ≤ m → m ≤ 2000 → ∀ (c : Nat → Value) (w : World), GAt w c g →
    Calls Tryz.prog 19 #[.agg #[c 0, c 1, c 2, c 3, c 4, c 5, c 6], .int .i64 m] w (WRet (wgt g) m w) := by
  induction g using G.ind with
  | h k l s f e es kids ih =>
    intro hW m hm0 hm1 c w hg
    obtain ⟨A3, A4, A5, A6, c3, c4, c5, c6, e0, e1, e2, e3, e4, e5, e6, ho⟩ := hg.open_
    rw [e0, e1, e2, e3, e4, e5, e6]
    obtain ⟨kc, hk, hkids⟩ := ho.kids
    obtain ⟨ev, hev, hrows⟩ := ho.endss
    obtain ⟨hl0, hl1⟩ := hk.le
    obtain ⟨hl2, hl3⟩ := hev.le
    have HKID := Lib.hid hkids
    have HROW := Lib.hid hrows
    have HIH := Lib.hid ih
    obtain ⟨n, hn⟩ : ∃ n, kids.length = n := ⟨_, rfl⟩
    obtain ⟨q, hq⟩ : ∃ q, es.length = q := ⟨_, rfl⟩
    obtain ⟨nf, hnf⟩ : ∃ nf, f.length = nf := ⟨_, rfl⟩
    obtain ⟨ne, hne⟩ : ∃ ne, e.length = ne := ⟨_, rfl⟩
    have hWW : wgt (.mk k l s f e es kids) = 1 + nf + ne + rowsW es + wgts kids := by rw [wgt, hnf, hne]
    have hq2 := length_le_rowsW es
    have hn2 := length_le_wgts kids
    rw [hn] at hl0 hk hn2
    rw [hq] at hl2 hev hq2
    rw [hWW] at hW ⊢
    rw [hn, hq, hnf, hne]
    have HN := Lib.hid hn
    have HQ := Lib.hid hq
    have HK := Lib.hid hk
    have HEV := Lib.hid hev
    have hX := fun i => rowsW_take_le es i
    have hY := fun i => wgts_take_le kids i
    have HX := Lib.hid hX
    have HY := Lib.hid hY
    obtain ⟨RW, hRW⟩ : ∃ RW, rowsW es = RW := ⟨_, rfl⟩
    obtain ⟨KW, hKW⟩ : ∃ KW, wgts kids = KW := ⟨_, rfl⟩
    have HRW := Lib.hid hRW
    have HKW := Lib.hid hKW
    rw [hRW] at hW hq2 ⊢
    rw [hKW] at hW hn2 ⊢
    clear e0 e1 e2 e3 e4 e5 e6 hg ho hkids hk ih hn hq hnf hne hev hrows hWW hX hY hRW hKW
    go_enter Tryz.func19, Tryz.ntmps19
    go_wp2_with (fail)
    go_loopg [5, 7, 21] q (fun gk v5 v7 v21 wr => ∃ i : Nat, i + gk = q ∧ v21 = .int .i64 i ∧ wr = w.alloc (.cells #[Value.int .i64 k, Value.int .i64 l, Value.int .i64 s, Value.slice A3 nf c3, Value.slice A4 ne c4, Value.slice A5 q c5, Value.slice A6 n c6] 28) ∧ ∃ r : Nat, v5 = .int .i64 r ∧ Hid (r = 1 + nf + ne + rowsW (es.take i)))
    case atStart => exact ⟨0, by omega, rfl, rfl, 1 + nf + ne, by go_num, Lib.hid (by simp [rowsW])⟩
    case round =>
      obtain ⟨i, hi, rfl, rfl, r, rfl, hr⟩ := hrel
      have hr2 : r ≤ 1 + nf + ne + RW := by have := hr.out; have := HX.out i; have := HRW.out; omega
      by_cases hlt : i < q
      · have HI := Lib.hid hi
        have hB0 : Below w.heap.size w (w.alloc (.cells #[Value.int .i64 k, Value.int .i64 l, Value.int .i64 s, Value.slice A3 nf c3, Value.slice A4 ne c4, Value.slice A5 q c5, Value.slice A6 n c6] 28)) := (Below.refl _ w).alloc (Nat.le_refl _) _
        obtain ⟨b, o, rfl, hb, h0⟩ := (HEV.out.below (Nat.le_refl _) hB0).one hlt
        obtain ⟨Ae, ce, hee, hle1, hle2, _⟩ := HROW.out i (by rw [HQ.out]; exact hlt)
        rw [hee] at h0
        have hst := rowsW_take es i (by rw [HQ.out]; exact hlt)
        obtain ⟨z, hz⟩ : ∃ z, (es.getD i []).length = z := ⟨_, rfl⟩
        rw [hz] at h0 hst hle1
        have hz2 : r + (1 + z) ≤ 1 + nf + ne + RW := by have := hr.out; have := HX.out (i + 1); have := HRW.out; omega
        have HST := Lib.hid hst
        clear hi hee hst hz hB0 hle1 hle2
        go_wp2_with (fail)
        go_roundg (q - (i + 1))
        case measure => have := HI.out; omega
        case rel => exact ⟨i + 1, by omega, by go_num, rfl, r + (1 + z), by go_num, Lib.hid (by rw [HST.out, hr.out]; omega)⟩
      · have ei : i = q := by omega
        subst ei
        have HR : Hid (r = 1 + nf + ne + RW) := Lib.hid (by rw [hr.out, ← HQ.out, List.take_length, HRW.out])
        clear hr hi
        go_wp2_with (fail)
        go_loopg [5, 34] n (fun gk v5 v34 wr => ∃ j : Nat, j + gk = n ∧ v34 = .int .i64 j ∧ Below (w.heap.size + 1) (w.alloc (.cells #[Value.int .i64 k, Value.int .i64 l, Value.int .i64 s, Value.slice A3 nf c3, Value.slice A4 ne c4, Value.slice A5 i c5, Value.slice A6 n c6] 28)) wr ∧
          ∃ t : Nat, v5 = .int .i64 t ∧ Hid (t = r + wgts (kids.take j) ∨ (m < t ∧ t ≤ r + wgts (kids.take j))))
        case atStart => exact ⟨0, by omega, rfl, Below.refl _ _, r, rfl, Lib.hid (Or.inl (by simp [wgts]))⟩
        case round =>
          obtain ⟨j, hj, rfl, hB, t, rfl, ht⟩ := hrel
          have hB0 : Below w.heap.size w wr := ((Below.refl _ w).alloc (Nat.le_refl _) _).trans (hB.mono (by omega))
          have ht2 : t ≤ r + KW := by have := ht.out; have := HY.out j; have := HKW.out; omega
          by_cases hlt : j < n
          · have HJ := Lib.hid hj
            have hD := wgts_take kids j (by rw [HN.out]; exact hlt)
            have hw1 : wgt (kids[j]'(by rw [HN.out]; exact hlt)) ≤ 2097152 := by have := HY.out (j + 1); have := HKW.out; omega
            have hR := fun m' h0 h1 c w' h => HIH.out j (by rw [HN.out]; exact hlt) hw1 m' h0 h1 c w' h
            have hle := HY.out (j + 1)
            rw [hD, HKW.out] at hle
            obtain ⟨x, hx⟩ : ∃ x, wgt (kids[j]'(by rw [HN.out]; exact hlt)) = x := ⟨_, rfl⟩
            rw [hx] at hD hle
            simp only [hx] at hR
            obtain ⟨b, o, k', l', s', A3', n3, d3, A4', n4, d4, A5', n5, d5, A6', n6, d6, rfl, hb, h0, h1, h2, h3, h4, h5, h6, HC⟩ :=
              kid_at hB0 HK.out hlt (HKID.out j (by rw [HN.out]; exact hlt)) (R := fun v w' => ∀ m', -4194304 ≤ m' → m' ≤ 2000 → Calls Tryz.prog 19 #[v, .int .i64 m'] w' (WRet x m' w')) (fun c w' h m' h0 h1 => hR m' h0 h1 c w' h)
            have HSZ : Hid (w.heap.size + 1 ≤ wr.heap.size) := Lib.hid (by simpa using hB.size)
            have HB := Lib.hid hB
            have HB0 := Lib.hid hB0
            have HD := Lib.hid hD
            have HLE := Lib.hid hle
            clear hj hB hB0 hR hD hx hw1 hle
            by_cases hgt : m < t
            · go_wp2_with (fail)
              go_ret
              exact ⟨t, rfl, by omega, fun h => absurd h (by omega), HB0.out.alloc HB0.out.size _⟩
            · have htm : (t : Int) ≤ m := by omega
              clear hgt
              go_wp2_with (go_at_call 19; refine (HC.out _ (HB0.out.alloc HB0.out.size _) (m - t) (by omega) (by omega)).mono ?_; rintro e w1 ⟨y, rfl, hy, hym, hB1⟩; have HB1 := Lib.hid hB1; have HYM := Lib.hid hym; have hty : t + y ≤ r + KW := (by have := HLE.out; have := ht.out; omega); clear hB1 hym)
              go_roundg (n - (j + 1))
              case measure => have := HJ.out; omega
              case rel =>
                refine ⟨j + 1, by omega, by go_num, (HB.out.alloc HSZ.out _).trans (HB1.out.mono (by simp; have := HSZ.out; omega)), t + y, by go_num, Lib.hid ?_⟩
                have h1 := ht.out
                have h2 := HYM.out
                have h3 := HD.out
                rw [h3]
                rcases h1 with h1 | h1
                · by_cases h4 : (y : Int) ≤ m - t
                  · have := h2 h4
                    left
                    omega
                  · right
                    omega
                · omega
          · have ej : j = n := by omega
            subst ej
            have HT : Hid (t = r + KW ∨ (m < t ∧ t ≤ r + KW)) := Lib.hid (by have := ht.out; rw [← HN.out, List.take_length, HKW.out] at this; exact this)
            have HB0 := Lib.hid hB0
            clear ht hj hB hB0
            go_wp2_with (fail)
            go_ret
            exact ⟨t, rfl, by omega, fun h => by have := HT.out; have := HR.out; omega, HB0.out⟩
end Go.Proofs.YtokmamakmaojpaaGreatDoor

/- V2. -/
namespace Go.Proofs.YtokmamakmaojpaaGreatDoor
open Go.RowKit

mutual
/-- The layout of a geometry; of a collection without one: the smallest that covers its parts'. -/
def layT : G → Int
  | .mk k l _ _ _ _ kids => if k ≠ 7 ∨ l ≠ 0 then l else layTs kids l
def layTs : List G → Int → Int
  | [], a => a
  | g :: gs, a => layTs gs (coverF a (layT g))
end
theorem layT_kids (k l : Int) (s : Int) (flat : List Nat) (ends : List Int) (endss : List (List Int)) (kids : List G) (h : k = 7) (h0 : l = 0) : layT (.mk k l s flat ends endss kids) = layTs kids 0 := by
  subst h0
  rw [layT, if_neg (by omega)]
theorem layT_own (k l : Int) (s : Int) (flat : List Nat) (ends : List Int) (endss : List (List Int)) (kids : List G) (h : k ≠ 7 ∨ l ≠ 0) : layT (.mk k l s flat ends endss kids) = l := by
  rw [layT, if_pos h]
theorem layTs_drop (l : List G) (a : Int) (i : Nat) (h : i < l.length) : layTs (l.drop i) a = layTs (l.drop (i + 1)) (coverF a (layT l[i])) := by
  rw [List.drop_eq_getElem_cons h]
  rfl
theorem coverF_lo {a b : Int} (h0 : 0 ≤ a) : 0 ≤ coverF a b := by
  unfold coverF
  split <;> omega
theorem coverF_hi {a b m : Int} (hm : 4 ≤ m) (h0 : a ≤ m) (h1 : b ≤ m) : coverF a b ≤ m := by
  unfold coverF
  split <;> omega
theorem layB_kid {m : Int} {k l s : Int} {f : List Nat} {e : List Int} {es : List (List Int)} {kids : List G} (h : layB m (.mk k l s f e es kids) = true) : ∀ i (hi : i < kids.length), layB m kids[i] = true := by
  rw [layB, Bool.and_eq_true] at h
  replace h := h.1
  induction kids with
  | nil => intro i hi; exact absurd hi (by simp)
  | cons a r ih =>
    rw [layBs, Bool.and_eq_true] at h
    intro i hi
    cases i with
    | zero => exact h.1
    | succ i => exact ih h.2 i (by simpa using hi)
theorem layB_own {m : Int} {k l s : Int} {f : List Nat} {e : List Int} {es : List (List Int)} {kids : List G} (h : layB m (.mk k l s f e es kids) = true) : 0 ≤ l ∧ l ≤ m ∧ (k ≠ 7 → 1 ≤ l) := by
  rw [layB] at h
  simp at h
  omega
theorem layTs_rng {m : Int} (hm : 4 ≤ m) : ∀ (l : List G) (a : Int), (∀ i (hi : i < l.length), 0 ≤ layT l[i] ∧ layT l[i] ≤ m) → 0 ≤ a → a ≤ m → 0 ≤ layTs l a ∧ layTs l a ≤ m
  | [], a, _, h0, h1 => ⟨h0, h1⟩
  | g :: gs, a, h, h0, h1 => by
    have hg := h 0 (by simp)
    exact layTs_rng hm gs _ (fun i hi => h (i + 1) (by simpa using hi)) (coverF_lo h0) (coverF_hi hm h1 hg.2)
theorem layT_rng {m : Int} (hm : 4 ≤ m) (g : G) : layB m g = true → 0 ≤ layT g ∧ layT g ≤ m := by
  induction g using G.ind with
  | h k l s f e es kids ih =>
    intro h
    have ho := layB_own h
    rw [layT]
    split
    · exact ⟨ho.1, ho.2.1⟩
    · exact layTs_rng hm kids l (fun i hi => ih i hi (layB_kid h i hi)) ho.1 ho.2.1

set_option maxHeartbeats 1000000 in
theorem layoutOf15 (g : G) : layB 9 g = true → ∀ (c : Nat → Value) (w : World), GAt w c g →
    Calls Tryz.prog 15 #[.agg #[c 0, c 1, c 2, c 3, c 4, c 5, c 6]] w (Ret (.int .i64 (layT g)) w) := by
  induction g using G.ind with
  | h k l s f e es kids ih =>
    intro hY c w hg
    obtain ⟨A3, A4, A5, A6, c3, c4, c5, c6, e0, e1, e2, e3, e4, e5, e6, ho⟩ := hg.open_
    rw [e0, e1, e2, e3, e4, e5, e6]
    have hLR := layT_rng (by omega) _ hY
    by_cases hk7 : k ≠ 7 ∨ l ≠ 0
    · rw [layT_own k l s f e es kids hk7]
      clear e0 e1 e2 e3 e4 e5 e6 hg ho ih hY hLR
      by_cases k7 : k = 7
      · subst k7
        have hl : (l == 0) = false := beq_false_of_ne (by omega)
        clear hk7
        go_enter Tryz.func15, Tryz.ntmps15
        go_wp2_with (fail)
        go_ret
        exact ⟨rfl, (Below.refl _ w).alloc (Nat.le_refl _) _⟩
      · have hl : (k == 7) = false := beq_false_of_ne (by omega)
        clear hk7 k7
        go_enter Tryz.func15, Tryz.ntmps15
        go_wp2_with (fail)
        go_ret
        exact ⟨rfl, (Below.refl _ w).alloc (Nat.le_refl _) _⟩
    · obtain ⟨rfl, rfl⟩ : k = 7 ∧ l = 0 := by omega
      have hT := layT_kids 7 0 s f e es kids rfl rfl
      rw [hT]
      obtain ⟨kc, hk, hkids⟩ := ho.kids
      obtain ⟨hl0, hl1⟩ := hk.le
      have HKID := Lib.hid hkids
      have HIH := Lib.hid ih
      have HY := Lib.hid (layB_kid hY)
      obtain ⟨n, hn⟩ : ∃ n, kids.length = n := ⟨_, rfl⟩
      rw [hn] at hl0 hk ⊢
      have HN := Lib.hid hn
      have HK := Lib.hid hk
      obtain ⟨L, hL⟩ : ∃ L, layTs kids 0 = L := ⟨_, rfl⟩
      have HL := Lib.hid hL
      rw [hL]
      clear e0 e1 e2 e3 e4 e5 e6 hg ho ih hY hLR hkids hk hn hk7 hT hL
      go_enter Tryz.func15, Tryz.ntmps15
      go_wp2_with (fail)
      go_loopg [3, 19] n (fun gk v3 v19 wr => ∃ i : Nat, i + gk = n ∧ v19 = .int .i64 i ∧ Below w.heap.size w wr ∧ ∃ a : Int, v3 = .int .i64 a ∧ 0 ≤ a ∧ a ≤ 9 ∧ Hid (L = layTs (kids.drop i) a))
      case atStart => exact ⟨0, by omega, rfl, (Below.refl _ _).alloc (Nat.le_refl _) _, 0, rfl, by omega, by omega, Lib.hid HL.out.symm⟩
      case round =>
        obtain ⟨i, hi, rfl, hB, a, rfl, ha0, ha1, hL⟩ := hrel
        by_cases hlt : i < n
        · have HI := Lib.hid hi
          have hD := layTs_drop kids a i (by rw [HN.out]; exact hlt)
          have hR := fun c w' h => HIH.out i (by rw [HN.out]; exact hlt) (HY.out i _) c w' h
          obtain ⟨hr0, hr1⟩ := layT_rng (by omega) _ (HY.out i (by rw [HN.out]; exact hlt))
          obtain ⟨r, hr⟩ : ∃ r, layT (kids[i]'(by rw [HN.out]; exact hlt)) = r := ⟨_, rfl⟩
          rw [hr] at hD hr0 hr1
          simp only [hr] at hR
          obtain ⟨b, o, k', l', s', A3', n3, d3, A4', n4, d4, A5', n5, d5, A6', n6, d6, rfl, hb, h0, h1, h2, h3, h4, h5, h6, HC⟩ :=
            kid_at hB HK.out hlt (HKID.out i (by rw [HN.out]; exact hlt)) (R := fun v w' => Calls Tryz.prog 15 #[v] w' (Ret (.int .i64 r) w')) hR
          have HB := Lib.hid hB
          have HD := Lib.hid hD
          clear hi hB hr hR hD
          have hc0 := coverF_lo (b := r) ha0
          have hc1 := coverF_hi (m := 9) (by omega) ha1 hr1
          go_wp2_with (first
            | (go_at_call 15; refine (HC.out _ (HB.out.alloc HB.out.size _)).mono ?_; rintro e w1 ⟨rfl, hB1⟩; have HB1 := Lib.hid hB1; clear hB1)
            | (go_at_call 46; refine (cover46 a r ha0 ha1 hr0 hr1 _).mono ?_; rintro e w' ⟨rfl, rfl⟩))
          go_roundg (n - (i + 1))
          case measure => have := HI.out; omega
          case rel =>
            exact ⟨i + 1, by omega, by go_num, (HB.out.alloc HB.out.size _).trans (HB1.out.mono (by simp; have := HB.out.size; omega)), coverF a r, rfl, hc0, hc1, Lib.hid (by rw [hL.out, HD.out])⟩
        · have ei : i = n := by omega
          subst ei
          have HLL : Hid (a = L) := Lib.hid (by rw [hL.out, ← HN.out, List.drop_length]; rfl)
          have HB := Lib.hid hB
          clear hB hL hi
          go_wp2_with (fail)
          go_ret
          exact ⟨by rw [← HLL.out]; rfl, HB.out⟩
end Go.Proofs.YtokmamakmaojpaaGreatDoor

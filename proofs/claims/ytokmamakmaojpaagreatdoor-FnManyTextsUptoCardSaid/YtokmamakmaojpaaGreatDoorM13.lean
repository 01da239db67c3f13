/-
  A4. internal/strconv.numDigits and setDigits: a number's digits, laid into a buffer, without the noughts at the end.
  S1. strings.Builder at this program: copyCheck, WriteString, WriteRune of a letter of ASCII.
-/
import Derived.Test.YtokmamakmaojpaaGreatDoorM01
import Derived.Test.YtokmamakmaojpaaGreatDoorM03
import Derived.Test.YtokmamakmaojpaaGreatDoorM02
import Derived.Test.YtokmamakmaojpaaGreatDoorM12
import Derived.Laws.Externs
import Derived.Lib.AppendStr
set_option linter.unusedVariables false
set_option linter.unusedSimpArgs false
/- A4. -/
namespace Go.Proofs.YtokmamakmaojpaaGreatDoor
open Go.RowKit Go.Sort

theorem numDigits_any (u : Nat) (h : u < 18446744073709551616) (w : World) (hT : Tabs w) :
    Calls Tryz.prog 94 #[.int .u64 u] w (Same (.int .i64 (digs u).length) w) := by
  by_cases h0 : u = 0
  · subst h0
    have ht : w.cell? ⟨1, 0, none⟩ = some (.int .u64 1) := hT.ten.cell (g := 1) (by kernel_rfl) 0 (by decide)
    go_enter Tryz.func94, Tryz.ntmps94
    go_wp2_with (first | (go_at_call 91; refine (Tryz.bits_Len64 0 _ (by decide) (by decide)).mono ?_; rintro e w' ⟨rfl, rfl⟩) | (go_at_call 95; refine (log10_any 0 _ (by decide) (by decide)).mono ?_; rintro e w' ⟨rfl, rfl⟩) | (go_at_call 113; refine (bool2_int _ _).mono ?_; rintro e w' ⟨rfl, rfl⟩))
    go_ret
    exact ⟨by simp [b2i, digs, wrap64], rfl⟩
  · rw [digs_length_pos h0]
    exact (Tryz.internal_strconv_numDigits u (by omega) h w hT.ten).mono fun e w' ⟨h1, h2⟩ => ⟨h1, h2.symm⟩

theorem digs_array (u v : Nat) (dk : Array UInt8) (h : Lib.FmtInv (digs u).length u 0 v dk) : dk = (digs u).toArray := by
  apply Array.ext
  · simpa using h.size
  · intro i h1 h2
    have h3 : i < (digs u).length := by simpa using h2
    have e1 := h.done i (Nat.zero_le _) h3
    have e2 := digs_at u i h3
    rw [getElem!_pos dk i h1] at e1
    rw [List.getElem?_eq_getElem h3] at e2
    rw [e1]
    simpa using (Option.some.inj e2).symm

def encB (b : UInt8) : Value := .int .u8 (b.toNat : Int)

theorem byte_of_int {l : List UInt8} {j : Nat} (h : j < l.length) (e : ((l.getD j 0).toNat : Int) = 48) : l[j]? = some 48 := by
  rw [List.getElem?_eq_getElem h]
  rw [List.getD_eq_getElem?_getD, List.getElem?_eq_getElem h] at e
  have e2 : (l[j].toNat : Int) = 48 := e
  have e3 : l[j].toNat = 48 := by omega
  congr 1
  apply UInt8.toNat_inj.1
  simpa using e3

/-- internal/strconv.setDigits over a buffer of its caller's: the digits lie there; how many of them are left without noughts at the end. -/
theorem setDigits_any (b off cap L u : Nat) (p : Int) (w : World) (hL : (digs u).length ≤ L) (hc : L ≤ cap) (hc2 : cap ≤ 1000) (hu : u < 18446744073709551616) (hp0 : -1000 ≤ p) (hp1 : p ≤ 1000)
    (hz : ∀ j, j < (digs u).length → w.cell? ⟨b, off + j, none⟩ = some (.int .u8 0) ∧ w.frozen? ⟨b, off + j, none⟩ = false) :
    Calls Tryz.prog 93 #[.slice (some ⟨b, off, none⟩) L cap, .int .u64 u, .int .i64 p, .int .i64 (digs u).length] w
      fun e w' => e = .returned (.tuple #[.int .i64 ((digs u).length + p), .int .i64 (trimN (digs u))]) ∧ ∃ n, w' = (putRow encB w b off (digs u).toArray).drewN n := by
  obtain ⟨N, hN⟩ : ∃ N, (digs u).length = N := ⟨_, rfl⟩
  have hH : Holds encB w b off (Array.replicate N 0) := by
    intro j hj
    have hj' : j < N := by simpa using hj
    have := hz j (by omega)
    simpa [encB, hj'] using this
  have key := Tryz.internal_strconv_formatBase10 b off cap u (Array.replicate N 0) w hH (by simpa [← hN] using lt_pow_digs u) hu (by simp; omega)
  simp only [Array.size_replicate] at key
  have HK := Lib.hid key
  clear key hz
  rw [hN]
  go_enter Tryz.func93, Tryz.ntmps93
  have hL' : N ≤ L := by omega
  go_wp2_with (go_at_call 112; refine HK.out.mono ?_; rintro e w1 ⟨rfl, n, v, dk, hw1, hinv⟩; have HW1 := Lib.hid hw1; have HI := Lib.hid hinv; clear hw1 hinv)
  have hd : dk = (digs u).toArray := digs_array u v dk (by rw [hN]; exact HI.out)
  have hcell : ∀ j, j < N → w1.cell? ⟨b, off + j, none⟩ = some (.int .u8 (((digs u).getD j 0).toNat : Int)) := by
    intro j hj
    have h1 : (putRow encB w b off dk).cell? ⟨b, off + j, none⟩ = some (encB dk[j]!) := cell?_putRow encB w b off _ dk hH (by simp [hd, hN]) j (by simp [hd, hN]; exact hj)
    rw [HW1.out]
    refine Eq.trans ?_ (h1.trans ?_)
    · rfl
    · rw [hd, getElem!_pos _ j (by simp [hN]; exact hj)]
      simp [encB, List.getD_eq_getElem?_getD, List.getElem?_eq_getElem (by rw [hN]; exact hj : j < (digs u).length)]
  have HC := Lib.hid hcell
  have HD := Lib.hid hd
  have HN := Lib.hid hN
  have HH := Lib.hid hH
  clear hcell hd hN hH HK
  go_loop [3] (fun v => ∃ m : Nat, v = .int .i64 m ∧ m ≤ N ∧ Hid (∀ j, m ≤ j → j < N → (digs u)[j]? = some 48)) (fun v => (intOf v).toNat)
  case atStart => exact ⟨N, rfl, Nat.le_refl _, fun j h0 h1 => by omega⟩
  case round =>
    obtain ⟨m, rfl, hm, hz⟩ := hrel
    by_cases h0 : m = 0
    · have hm0 : decide ((0 : Int) < (m : Int)) = false := by simp; omega
      have hm1 : decide (0 < m) = false := by simp; omega
      have e : m = trimN (digs u) := trimN_unique _ m (by rw [HN.out]; exact hm) (fun j h0 h1 => hz.out j h0 (by rw [← HN.out]; exact h1)) (Or.inl h0)
      have HE := Lib.hid e
      clear h0 e
      go_wp2
      go_ret2
      exact ⟨by rw [← HE.out]; rfl, n, by rw [HW1.out, HD.out]; rfl⟩
    · have hm0 : 0 < m := by omega
      have hk := HC.out (m - 1) (by omega)
      obtain ⟨c, hcc⟩ : ∃ c : Int, (((digs u).getD (m - 1) 0).toNat : Int) = c := ⟨_, rfl⟩
      rw [hcc] at hk
      have HCC := Lib.hid hcc
      have hmL : m ≤ L := by omega
      clear hcc h0
      by_cases h48 : c = 48
      · have hc48 : (c == 48) = true := by simpa using h48
        have H48 := Lib.hid h48
        clear h48
        go_wp2
        go_round
        case rel =>
          refine ⟨m - 1, by go_num, by omega, fun j h0 h1 => ?_⟩
          rcases Nat.eq_or_lt_of_le h0 with hj | hj
          · subst hj
            have hlt : m - 1 < (digs u).length := by rw [HN.out]; exact h1
            exact byte_of_int hlt (HCC.out.trans H48.out)
          · exact hz.out j (by omega) h1
        case measure => simp [intOf]; omega
      · have hne : (c == 48) = false := by simpa using h48
        have e : m = trimN (digs u) := trimN_unique _ m (by rw [HN.out]; exact hm) (fun j h0 h1 => hz.out j h0 (by rw [← HN.out]; exact h1)) (Or.inr fun hx => h48 (by
          rw [← HCC.out, List.getD_eq_getElem?_getD, hx]; rfl))
        have HE := Lib.hid e
        clear h48 e
        go_wp2
        go_ret2
        exact ⟨by rw [← HE.out]; rfl, n, by rw [HW1.out, HD.out]; rfl⟩
end Go.Proofs.YtokmamakmaojpaaGreatDoor

/- S1. -/
namespace Go.Proofs.YtokmamakmaojpaaGreatDoor
open Go.RowKit

theorem info62 : (Tryz.prog.info? 62).map (·.size) = some 2 := by kernel_rfl
theorem lies62 : liesAt Tryz.prog Tryz.prog.depth 62 (2 / Tryz.prog.cellsOf 62) 0 62 1 = true := by kernel_rfl
theorem info5B : (Tryz.prog.info? 5).map (fun i => (i.zero, i.size, i.bytes)) = some (some (.int .u8 0), 1, 1) := by kernel_rfl

set_option maxHeartbeats 1000000 in
set_option maxRecDepth 100000 in
theorem copyCheck_used (b : Nat) (w : World) (h0 : w.cell? ⟨b, 0, none⟩ = some (.pointer (some ⟨b, 0, none⟩))) :
    Calls Tryz.prog 74 #[.pointer (some ⟨b, 0, none⟩)] w (Same (.tuple #[]) w) := by
  obtain ⟨j, hj, _⟩ := Option.map_eq_some_iff.1 info62
  go_enter Tryz.func74, Tryz.ntmps74
  go_wp2
  rw [Lib.run_neq_ptr_same w _ Tryz.underlying59 hj]
  go_wp2
  go_end0
  exact ⟨rfl, rfl⟩

set_option maxHeartbeats 1000000 in
set_option maxRecDepth 100000 in
theorem copyCheck_fresh (b : Nat) (w : World) (h0 : w.cell? ⟨b, 0, none⟩ = some (.pointer none)) (hsh : w.shape? b = some (62, 2)) (hfz : w.frozen? ⟨b, 0, none⟩ = false) :
    Calls Tryz.prog 74 #[.pointer (some ⟨b, 0, none⟩)] w fun e w' => e = .returned (.tuple #[]) ∧ w' = w.setCell ⟨b, 0, none⟩ (.pointer (some ⟨b, 0, none⟩)) := by
  obtain ⟨j, hj, hjs⟩ := Option.map_eq_some_iff.1 info62
  go_enter Tryz.func74, Tryz.ntmps74
  go_wp2
  rw [Lib.run_to_unsafe w ⟨b, 0, none⟩ Tryz.underlying59 Tryz.underlying156 hj (by rw [hjs]; decide) hsh (Nat.zero_lt_succ 1)]
  simp only [Result.andThen]
  rw [Oper.upon_value]
  go_wp2
  rw [run_callFunc_extern Tryz.func80 (by kernel_rfl) (by kernel_rfl) (by kernel_rfl) (e := Extern.AbiNoEscape.same) (by kernel_rfl)]
  rw [Lib.run_noEscape]
  simp only [Result.andThen]
  rw [Oper.upon_value]
  go_wp2
  rw [Lib.run_from_unsafe w ⟨b, 0, none⟩ Tryz.underlying156 Tryz.underlying59 hj hsh lies62]
  simp only [Result.andThen]
  rw [Oper.upon_value]
  go_wp2
  go_end0
  exact ⟨rfl, rfl⟩

theorem copyCheck_any (B b : Nat) (bs : List Value) (w : World) (h : Lib.IsBuilder 62 5 B b bs w) :
    Calls Tryz.prog 74 #[.pointer (some ⟨b, 0, none⟩)] w fun e w' => e = .returned (.tuple #[]) ∧ (Lib.BuilderAt 62 5 B b (.pointer (some ⟨b, 0, none⟩)) bs w' ∧ Below B w w') := by
  rcases h with h | h
  · refine (copyCheck_fresh b w h.cell0 h.shape h.frozen0).mono ?_
    rintro e w' ⟨rfl, rfl⟩
    exact ⟨rfl, h.used _, (Below.refl B w).setCell (p := ⟨b, 0, none⟩) h.1 _⟩
  · refine (copyCheck_used b w h.cell0).mono ?_
    rintro e w' ⟨rfl, rfl⟩
    exact ⟨rfl, h, Below.refl B _⟩

/-- A builder of the call's own at b, laid behind w0, holds s. -/
structure Bld (w0 : World) (b : Nat) (s : List UInt8) (w : World) : Prop where
  below : Below w0.heap.size w0 w
  bld : Lib.IsBuilder 62 5 w0.heap.size b (Lib.byteCells s) w
/-- What a write to it leaves. -/
def BWr (w0 : World) (b : Nat) (s : List UInt8) (e : Ending) (w' : World) : Prop := ∃ n : Int, e = .returned (.tuple #[.int .i64 n, .nilIface]) ∧ Bld w0 b s w'
/-- What a writer of the encoder leaves. -/
def EWr (w0 : World) (b : Nat) (s : List UInt8) (e : Ending) (w' : World) : Prop := e = .returned .nilIface ∧ Bld w0 b s w'

set_option maxHeartbeats 2000000 in
set_option maxRecDepth 100000 in
theorem writeString50 (w0 : World) (b : Nat) (s : List UInt8) (t : List UInt8) (w : World) (h : Bld w0 b s w) (hlen : s.length + t.length ≤ 140737488355328) :
    Calls Tryz.prog 50 #[.pointer (some ⟨b, 0, none⟩), .string ⟨t.toArray⟩] w (BWr w0 b (s ++ t)) := by
  obtain ⟨hBl, hb⟩ := h
  obtain ⟨i0, hi, hz0, hz1, hz2⟩ := info_parts info5B
  have hBw := hBl.size
  have hsz : (⟨t.toArray⟩ : ByteArray).size = t.length := rfl
  have HSZ := Lib.hid hsz
  have HBL := Lib.hid hBl
  obtain ⟨B, hB⟩ : ∃ B, w0.heap.size = B := ⟨_, rfl⟩
  rw [hB] at hb hBw
  have HBB := Lib.hid hB
  clear hsz hBl hB
  go_enter Tryz.func50, Tryz.ntmps50
  go_wp2_with (go_at_call 74; refine (copyCheck_any B b _ _ hb).mono ?_)
  rintro e w1 ⟨rfl, h1, hb1⟩
  obtain ⟨hB, v, hbk, hown, hne⟩ := h1
  have c0 : w1.cell? ⟨b, 0, none⟩ = some (.pointer (some ⟨b, 0, none⟩)) := by rw [Lib.cell_of_heap hbk]; rfl
  have c1 : w1.cell? ⟨b, 1, none⟩ = some v := by rw [Lib.cell_of_heap hbk]; rfl
  rw [Lib.byteCells_length] at hown
  go_wp2_with (at_builtin; refine Lib.wpList_append_own_string _ rfl _ _ 60 9 rfl B 5 i0 Tryz.underlying60 Tryz.underlying9 hi hz0 hz1 hz2 _ _ _ rfl hown ⟨t.toArray⟩ rfl ?c3 ?c4 ?c5 ?_)
  case c3 => unfold maxLen; rw [HSZ.out]; omega
  case c4 => rw [HSZ.out]; omega
  case c5 => have := hb1.size; omega
  intro v' w2 hown' hgrow _
  have hlt : b < w1.heap.size := by
    rcases Nat.lt_or_ge b w1.heap.size with h' | h'
    · exact h'
    · simp [Array.getElem?_eq_none h'] at hbk
  have hb2 : w2.heap[b]? = some (.cells #[.pointer (some ⟨b, 0, none⟩), v] 62 (0, 0)) := by
    rw [hgrow.block b hlt (fun e => hne e.symm)]
    exact hbk
  have d0 : w2.cell? ⟨b, 0, none⟩ = some (.pointer (some ⟨b, 0, none⟩)) := by rw [Lib.cell_of_heap hb2]; rfl
  have d1 : w2.cell? ⟨b, 1, none⟩ = some v := by rw [Lib.cell_of_heap hb2]; rfl
  have f1 : w2.frozen? ⟨b, 1, none⟩ = false := Lib.frozen_of_heap hb2 1
  obtain ⟨ao, n', cap, rfl⟩ : ∃ ao n' cap, v' = .slice ao n' cap := by
    rcases hown'.2 with ⟨hv, _⟩ | ⟨g, cap, cur, hv, _⟩
    · exact ⟨_, _, _, hv⟩
    · exact ⟨_, _, _, hv⟩
  have hlenE : s.length + (⟨t.toArray⟩ : ByteArray).size = (Lib.byteCells (s ++ t)).length := by rw [Lib.byteCells_length, List.length_append]; rfl
  have hE : w2.ownsRow B 5 1 (.slice ao n' cap) (Lib.byteCells (s ++ t)).length (Lib.byteCells (s ++ t)) := by
    rw [← hlenE, Lib.byteCells_append]
    exact hown'
  have HE := Lib.hid hE
  have HB2 : Hid (Below B w w2) := Lib.hid (hb1.grown hgrow (by have := hb1.size; omega) (fun k hk => (hown.lt k hk).1))
  clear hE hlenE hown' hgrow hown
  go_wp2
  go_ret2
  refine ⟨_, rfl, ?_, ?_⟩
  · rw [HBB.out]
    exact (by have h3 := HBL.out; rw [HBB.out] at h3; exact h3.trans (HB2.out.setCell (p := ⟨b, 1, none⟩) hB _))
  · rw [HBB.out]
    exact Or.inr (Lib.BuilderAt.put (T := 62) (e := 5) hB hb2 HE.out (by decide))

set_option maxHeartbeats 2000000 in
set_option maxRecDepth 100000 in
theorem appendRune76 (B : Nat) (v : Value) (n : Nat) (xs : List Value) (r : Int) (h0 : 0 ≤ r) (h1 : r ≤ 127) (w : World) (hown : w.ownsRow B 5 1 v n xs) (hlen : n + 1 ≤ 140737488355328) (hBw : B ≤ w.heap.size) :
    Calls Tryz.prog 76 #[v, .int .i32 r] w fun e w' => ∃ v', e = .returned v' ∧ w'.ownsRow B 5 1 v' (n + 1) (xs ++ [.int .u8 r]) ∧ ∃ o, (w.alloc o).grownBy w' v.ownBlock := by
  obtain ⟨i0, hi, hz0, hz1, hz2⟩ := info_parts info5B
  go_enter Tryz.func76, Tryz.ntmps76
  go_wp2_with (at_builtin; refine wpList_append_own _ rfl _ _ 60 rfl B 5 i0 (.int .u8 0) 1 1 Tryz.underlying60 hi hz0 hz1 hz2 rfl (by decide) _ _ _ rfl (hown.alloc _) ⟨w.heap.size, 0, none⟩ 1 1 [.int .u8 r] rfl rfl ?c1 ?c2 ?c3 ?c4 ?c5 ?_)
  case c1 =>
    intro j u hj
    match j, hj with
    | 0, hj => simp at hj; subst hj; simp [Addr.add]
  case c2 => intro u hu; simp at hu; subst hu; rfl
  case c3 => unfold maxLen; omega
  case c4 => omega
  case c5 => simp; omega
  intro v' w2 hown' hgrow _
  go_wp2
  go_ret
  exact ⟨_, rfl, hown', _, hgrow⟩

set_option maxHeartbeats 2000000 in
set_option maxRecDepth 100000 in
theorem writeRune66 (w0 : World) (b : Nat) (s : List UInt8) (c : UInt8) (hc : c.toNat ≤ 127) (w : World) (h : Bld w0 b s w) (hlen : s.length + 1 ≤ 140737488355328) :
    Calls Tryz.prog 66 #[.pointer (some ⟨b, 0, none⟩), .int .i32 c.toNat] w (BWr w0 b (s ++ [c])) := by
  obtain ⟨hBl, hb⟩ := h
  have hBw := hBl.size
  have HBL := Lib.hid hBl
  obtain ⟨B, hB⟩ : ∃ B, w0.heap.size = B := ⟨_, rfl⟩
  rw [hB] at hb hBw
  have HBB := Lib.hid hB
  clear hBl hB
  go_enter Tryz.func66, Tryz.ntmps66
  go_wp2_with (go_at_call 74; refine (copyCheck_any B b _ _ hb).mono ?_)
  rintro e w1 ⟨rfl, h1, hb1⟩
  obtain ⟨hB, v, hbk, hown, hne⟩ := h1
  have c0 : w1.cell? ⟨b, 0, none⟩ = some (.pointer (some ⟨b, 0, none⟩)) := by rw [Lib.cell_of_heap hbk]; rfl
  have c1 : w1.cell? ⟨b, 1, none⟩ = some v := by rw [Lib.cell_of_heap hbk]; rfl
  rw [Lib.byteCells_length] at hown
  obtain ⟨ao, cap0, rfl⟩ : ∃ ao cap, v = .slice ao s.length cap := by
    rcases hown.2 with ⟨hv, h0⟩ | ⟨g, cap, cur, hv, _⟩
    · exact ⟨none, 0, by rw [hv, h0]⟩
    · exact ⟨_, _, hv⟩
  have hlt : b < w1.heap.size := by
    rcases Nat.lt_or_ge b w1.heap.size with h' | h'
    · exact h'
    · simp [Array.getElem?_eq_none h'] at hbk
  go_wp2_with (go_at_call 76; refine (appendRune76 B _ s.length (Lib.byteCells s) c.toNat (by omega) (by omega) _ hown (by omega) (by have := hb1.size; omega)).mono ?_)
  rintro e w2 ⟨v', rfl, hown', o, hgrow⟩
  have hb2 : w2.heap[b]? = some (.cells #[.pointer (some ⟨b, 0, none⟩), .slice ao s.length cap0] 62 (0, 0)) := by
    rw [hgrow.block b (by simp; omega) (fun e => hne e.symm), Lib.alloc_old w1 _ b hlt]
    exact hbk
  have d0 : w2.cell? ⟨b, 0, none⟩ = some (.pointer (some ⟨b, 0, none⟩)) := by rw [Lib.cell_of_heap hb2]; rfl
  have d1 : w2.cell? ⟨b, 1, none⟩ = some (.slice ao s.length cap0) := by rw [Lib.cell_of_heap hb2]; rfl
  have f1 : w2.frozen? ⟨b, 1, none⟩ = false := Lib.frozen_of_heap hb2 1
  obtain ⟨g, cap, rfl⟩ : ∃ g cap, v' = .slice g (s.length + 1) cap := by
    rcases hown'.2 with ⟨_, h0⟩ | ⟨g, cap, cur, hv, _⟩
    · omega
    · exact ⟨_, cap, hv⟩
  have hlenE : s.length + 1 = (Lib.byteCells (s ++ [c])).length := by rw [Lib.byteCells_length, List.length_append]; rfl
  have hE : w2.ownsRow B 5 1 (.slice g (s.length + 1) cap) (Lib.byteCells (s ++ [c])).length (Lib.byteCells (s ++ [c])) := by
    rw [← hlenE, Lib.byteCells_append]
    exact hown'
  have HE := Lib.hid hE
  have HB2 : Hid (Below B w w2) := Lib.hid ((hb1.alloc (by have := hb1.size; omega) _).grown hgrow (by have := hb1.size; simp; omega) (fun k hk => (hown.lt k hk).1))
  clear hE hlenE hown' hgrow hown
  go_wp2
  go_ret2
  refine ⟨_, rfl, ?_, ?_⟩
  · rw [HBB.out]
    exact (by have h3 := HBL.out; rw [HBB.out] at h3; exact h3.trans (HB2.out.setCell (p := ⟨b, 1, none⟩) hB _))
  · rw [HBB.out]
    exact Or.inr (Lib.BuilderAt.put (T := 62) (e := 5) hB hb2 HE.out (by decide))

/-- writeEMPTY. -/
theorem writeEmpty52 (w0 : World) (b : Nat) (s : List UInt8) (ev : Value) (w : World) (h : Bld w0 b s w) (hlen : s.length + 5 ≤ 140737488355328) :
    Calls Tryz.prog 52 #[ev, .pointer (some ⟨b, 0, none⟩)] w (EWr w0 b (s ++ [69, 77, 80, 84, 89])) := by
  have H := Lib.hid (writeString50 w0 b s [69, 77, 80, 84, 89] w h hlen)
  clear h
  go_enter Tryz.func52, Tryz.ntmps52
  go_wp2_with (go_at_call 50; refine H.out.mono ?_; rintro e w1 ⟨n, rfl, hB⟩; have HB := Lib.hid hB; clear hB)
  go_ret
  exact ⟨rfl, HB.out⟩
end Go.Proofs.YtokmamakmaojpaaGreatDoor

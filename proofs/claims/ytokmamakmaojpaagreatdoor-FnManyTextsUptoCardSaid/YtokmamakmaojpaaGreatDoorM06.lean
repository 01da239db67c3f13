/-
  A8. internal/strconv.fmtEFG at the format f: what is appended to the row.
  A16. Rows of bytes over calls that leave them; fmtEFG where there are no digits.
-/
import Derived.Test.YtokmamakmaojpaaGreatDoorM05
import Derived.Test.YtokmamakmaojpaaGreatDoorM03
import Derived.Deep.DeepCutAuto
set_option linter.unusedVariables false
set_option linter.unusedSimpArgs false
/- A8. -/
namespace Go.Proofs.YtokmamakmaojpaaGreatDoor
open Go.RowKit

set_option maxHeartbeats 8000000 in
set_option maxRecDepth 100000 in
theorem fmtF_any (B : Nat) (v : Value) (l : List UInt8) (neg sh : Bool) (sv : Value) (sb L cap : Nat) (ds : List UInt8) (dp : Int) (N : Nat) (prec : Int) (w : World) (hR : BRow B w v l w) (hl : l.length ≤ 1000)
    (hd0 : -1000 ≤ dp) (hd1 : dp ≤ 1000) (hn1 : N ≤ L) (hL : L ≤ cap) (hcap : cap ≤ 1000) (hp0 : 0 ≤ prec) (hp1 : prec ≤ 1000)
    (hsv : sv = .slice (some ⟨sb, 0, none⟩) L cap)
    (cs : Array Value) (T : TypeId) (fz : Nat × Nat) (hT : T ≠ 5) (hblk : w.heap[sb]? = some (.cells cs T fz)) (hds : N ≤ ds.length) (hcs : ∀ j, j < N → cs[j]? = some (.int .u8 ((ds.getD j 0).toNat : Int))) :
    Calls Tryz.prog 90 #[v, .bool neg, sv, .int .i64 dp, .int .i64 N, .int .i64 prec, .int .u8 102, .bool sh] w
      fun e w' => ∃ v', e = .returned v' ∧ BRow B w v' (l ++ fixF neg ds dp N prec) w' := by
  subst hsv
  have hcell : ∀ v' l' w', BRow B w v' l' w' → ∀ j, j < N → w'.cell? ⟨sb, j, none⟩ = some (.int .u8 ((ds.getD j 0).toNat : Int)) := fun v' l' w' h j hj => by
    rw [Lib.cell_of_heap (h.block hblk hT)]
    exact hcs j hj
  have HC := Lib.hid hcell
  clear hcell hcs hblk
  go_enter Tryz.func90, Tryz.ntmps90
  go_upto_if 178 with (fail)
  go_cut [0] (fun s0 wx => BRow B w s0 (l ++ signF neg) wx)
  case first =>
    as_aux_lemma =>
      cases neg
      · go_wp2_with (fail)
        go_meet
        simpa [signF] using hR
      · go_wp2_with (at_builtin; refine wpList_push hR 45 _ rfl (by omega) rfl _ _ rfl rfl rfl ?_; intro v' w' hR')
        go_meet
        simpa [signF] using hR'
  case rest =>
    as_aux_lemma =>
      obtain ⟨bp, hbp⟩ : ∃ bp, decide (0 < dp) = bp := ⟨_, rfl⟩
      go_upto_if 183 with (fail)
      have HBP := Lib.hid hbp
      clear hbp
      go_cut [0] (fun s0 wx => BRow B w s0 (l ++ signF neg ++ wholeF ds dp N) wx)
      case first =>
        as_aux_lemma =>
          have HR1 := Lib.hid hcut
          cases bp with
          | true =>
            have hpos : 0 < dp := of_decide_eq_true HBP.out
            obtain ⟨D, rfl⟩ : ∃ D : Nat, dp = D := ⟨dp.toNat, by omega⟩
            have hD1 : 1 ≤ D := by omega
            by_cases hle : D < N
            · go_wp2_with (fail)
              go_loopg [0, 25, 191] D (fun g s0 _ s1 wr => ∃ k : Nat, k + g = D ∧ s1 = .int .i64 k ∧ BRow B w s0 (l ++ signF neg ++ ds.take k) wr)
              case atStart => exact ⟨0, Nat.zero_add _, rfl, by simpa using HR1.out⟩
              case round =>
                as_aux_lemma =>
                  obtain ⟨k, hkg, rfl, hR2⟩ := hrel
                  have hk : k ≤ D := by omega
                  have HK := Lib.hid hkg
                  clear hkg
                  have hlen : (l ++ signF neg ++ ds.take k).length + 1 ≤ 140737488355328 := by
                    have := signF_length neg
                    have := List.length_take_le k ds
                    simp only [List.length_append]
                    omega
                  by_cases hlt : k < D
                  · have hc := HC.out _ _ _ hR2 k (by omega)
                    go_wp2_with (at_builtin; refine wpList_push hR2 (ds.getD k 0) _ rfl hlen rfl _ _ rfl rfl rfl ?_; intro v' w' hR')
                    go_roundg (gk - 1)
                    case measure => have := HK.out; omega
                    case rel => exact ⟨k + 1, by have := HK.out; omega, by go_num, by rw [take_snoc_getD ds k (by omega), ← List.append_assoc]; exact hR'⟩
                  · have ek : D = k := by omega
                    subst ek
                    clear HK
                    have HR2 := Lib.hid hR2
                    clear hR2 hlen
                    go_wp2_with (fail)
                    go_loopg [0, 203] 0 (fun g s0 s1 wr => ∃ j : Nat, j + g = 0 ∧ s1 = .int .i64 j ∧ BRow B w s0 (l ++ signF neg ++ ds.take D ++ List.replicate j 48) wr)
                    case atStart => exact ⟨0, Nat.zero_add _, rfl, by simpa using HR2.out⟩
                    case round =>
                      as_aux_lemma =>
                        obtain ⟨j, hjg, rfl, hR3⟩ := hrel
                        have hj : j ≤ 0 := by omega
                        have HJ := Lib.hid hjg
                        clear hjg
                        have hlen : (l ++ signF neg ++ ds.take D ++ List.replicate j 48).length + 1 ≤ 140737488355328 := by
                          have := signF_length neg
                          have := List.length_take_le D ds
                          simp only [List.length_append, List.length_replicate]
                          omega
                        by_cases hlt2 : j < 0
                        · omega
                        · go_wp2_with (fail)
                          go_meet
                          have ej : j = 0 := by omega
                          subst ej
                          rw [wholeF_lt ds D N hD1 hle, ← List.append_assoc]
                          exact hR3
            · go_wp2_with (fail)
              go_loopg [0, 25, 191] N (fun g s0 _ s1 wr => ∃ k : Nat, k + g = N ∧ s1 = .int .i64 k ∧ BRow B w s0 (l ++ signF neg ++ ds.take k) wr)
              case atStart => exact ⟨0, Nat.zero_add _, rfl, by simpa using HR1.out⟩
              case round =>
                as_aux_lemma =>
                  obtain ⟨k, hkg, rfl, hR2⟩ := hrel
                  have hk : k ≤ N := by omega
                  have HK := Lib.hid hkg
                  clear hkg
                  have hlen : (l ++ signF neg ++ ds.take k).length + 1 ≤ 140737488355328 := by
                    have := signF_length neg
                    have := List.length_take_le k ds
                    simp only [List.length_append]
                    omega
                  by_cases hlt : k < N
                  · have hc := HC.out _ _ _ hR2 k (by omega)
                    go_wp2_with (at_builtin; refine wpList_push hR2 (ds.getD k 0) _ rfl hlen rfl _ _ rfl rfl rfl ?_; intro v' w' hR')
                    go_roundg (gk - 1)
                    case measure => have := HK.out; omega
                    case rel => exact ⟨k + 1, by have := HK.out; omega, by go_num, by rw [take_snoc_getD ds k (by omega), ← List.append_assoc]; exact hR'⟩
                  · have ek : N = k := by omega
                    subst ek
                    clear HK
                    have HR2 := Lib.hid hR2
                    clear hR2 hlen
                    go_wp2_with (fail)
                    go_loopg [0, 203] (D - N) (fun g s0 s1 wr => ∃ j : Nat, j + g = (D - N) ∧ s1 = .int .i64 j ∧ BRow B w s0 (l ++ signF neg ++ ds.take N ++ List.replicate j 48) wr)
                    case atStart => exact ⟨0, Nat.zero_add _, rfl, by simpa using HR2.out⟩
                    case round =>
                      as_aux_lemma =>
                        obtain ⟨j, hjg, rfl, hR3⟩ := hrel
                        have hj : j ≤ (D - N) := by omega
                        have HJ := Lib.hid hjg
                        clear hjg
                        have hlen : (l ++ signF neg ++ ds.take N ++ List.replicate j 48).length + 1 ≤ 140737488355328 := by
                          have := signF_length neg
                          have := List.length_take_le N ds
                          simp only [List.length_append, List.length_replicate]
                          omega
                        by_cases hlt2 : j < (D - N)
                        · go_wp2_with (at_builtin; refine wpList_push hR3 48 _ rfl hlen rfl _ _ rfl rfl rfl ?_; intro v' w' hR')
                          go_roundg (gk - 1)
                          case measure => have := HJ.out; omega
                          case rel => exact ⟨j + 1, by have := HJ.out; omega, by go_num, by rw [List.replicate_succ', ← List.append_assoc]; exact hR'⟩
                        · go_wp2_with (fail)
                          go_meet
                          have ej : j = D - N := by omega
                          subst ej
                          rw [wholeF_ge ds D N hD1 (by omega), ← List.append_assoc]
                          exact hR3
          | false =>
            go_wp2_with (at_builtin; refine wpList_push hcut 48 _ rfl (by have := signF_length neg; simp only [List.length_append]; omega) rfl _ _ rfl rfl rfl ?_; intro v' w' hR')
            go_meet
            have hw : wholeF ds dp N = [48] := by unfold wholeF; rw [if_neg (of_decide_eq_false HBP.out)]
            rw [hw]
            exact hR'
      case rest =>
        as_aux_lemma =>
          clear HBP
          have HR3 := Lib.hid hcut
          clear hcut
          obtain ⟨bq, hbq⟩ : ∃ bq, decide (0 < prec) = bq := ⟨_, rfl⟩
          go_upto_if 213 with (fail)
          have HBQ := Lib.hid hbq
          clear hbq
          go_cut [0] (fun s0 wx => BRow B w s0 (l ++ signF neg ++ wholeF ds dp N ++ fracF ds dp N prec) wx)
          case first =>
            as_aux_lemma =>
              cases bq with
              | false =>
                go_wp2_with (fail)
                go_meet
                have hf : fracF ds dp N prec = [] := by unfold fracF; rw [if_neg (of_decide_eq_false HBQ.out)]
                rw [hf, List.append_nil]
                exact HR3.out
              | true =>
                have hlen : (l ++ signF neg ++ wholeF ds dp N).length + 1 ≤ 140737488355328 := by
                  have := wholeF_length ds dp N (by omega)
                  have := signF_length neg
                  simp only [List.length_append]
                  omega
                have hR3 := HR3.out
                obtain ⟨P, rfl⟩ : ∃ P : Nat, prec = P := ⟨prec.toNat, by omega⟩
                obtain ⟨A, hA⟩ : ∃ A, (if dp < 0 then -dp else 0) = A := ⟨_, rfl⟩
                obtain ⟨Z, hZ⟩ : ∃ Z, (if A < (P : Int) then A else P) = Z := ⟨_, rfl⟩
                obtain ⟨M0, hM0⟩ : ∃ M0, (if dp + Z < (N : Int) then (N : Int) - (dp + Z) else 0) = M0 := ⟨_, rfl⟩
                obtain ⟨M, hM⟩ : ∃ M, (if M0 < (P : Int) - Z then M0 else (P : Int) - Z) = M := ⟨_, rfl⟩
                obtain ⟨T0, hT0⟩ : ∃ T0, (if M < (P : Int) - Z then (P : Int) - Z - M else 0) = T0 := ⟨_, rfl⟩
                go_wp2_with (at_builtin; refine wpList_push hR3 46 _ rfl hlen rfl _ _ rfl rfl rfl ?_; intro v' w' hR')
                have HZ := Lib.hid hZ
                have HA := Lib.hid hA
                have HM0 := Lib.hid hM0
                have HM := Lib.hid hM
                have HT0 := Lib.hid hT0
                have hb : 0 ≤ Z ∧ Z ≤ P ∧ 0 ≤ M ∧ M ≤ (P : Int) - Z ∧ 0 ≤ T0 ∧ T0 ≤ P ∧ (0 < M → 0 ≤ dp + Z ∧ dp + Z + M ≤ N) := by
                  clear HZ HA HM0 HM HT0
                  split at hA <;> split at hZ <;> split at hM0 <;> split at hM <;> split at hT0 <;> omega
                clear hA hZ hM0 hM hT0
                obtain ⟨hZ0, hZ1, hM0, hM1, hT0, hT1, hin⟩ := hb
                have HIN := Lib.hid hin
                have HR4 := Lib.hid hR'
                have hlw := wholeF_length ds dp N (by omega)
                have hls := signF_length neg
                clear hin hR' hlen hR3 HR3
                go_loopg [0, 240] Z.toNat (fun g s0 s1 wr => ∃ k : Nat, k + g = Z.toNat ∧ s1 = .int .i64 k ∧ BRow B w s0 (l ++ signF neg ++ wholeF ds dp N ++ [46] ++ List.replicate k 48) wr)
                case atStart => exact ⟨0, Nat.zero_add _, rfl, by simpa using HR4.out⟩
                case round =>
                  as_aux_lemma =>
                    obtain ⟨k, hkg, rfl, hR5⟩ := hrel
                    have HK := Lib.hid hkg
                    have hk : (k : Int) ≤ Z := by omega
                    clear hkg
                    have hlen : (l ++ signF neg ++ wholeF ds dp N ++ [46] ++ List.replicate k 48).length + 1 ≤ 140737488355328 := by
                      simp only [List.length_append, List.length_replicate, List.length_singleton]
                      omega
                    by_cases hlt : (k : Int) < Z
                    · go_wp2_with (at_builtin; refine wpList_push hR5 48 _ rfl hlen rfl _ _ rfl rfl rfl ?_; intro v' w' hR')
                      go_roundg (gk - 1)
                      case measure => have := HK.out; omega
                      case rel => exact ⟨k + 1, by have := HK.out; omega, by go_num, by rw [List.replicate_succ', ← List.append_assoc]; exact hR'⟩
                    · have ek : k = Z.toNat := by omega
                      subst ek
                      clear HK hlen
                      have HR5 := Lib.hid hR5
                      clear hR5
                      go_wp2_with (fail)
                      go_loopg [0, 30, 247] M.toNat (fun g s0 _ s1 wr => ∃ k : Nat, k + g = M.toNat ∧ s1 = .int .i64 k ∧ BRow B w s0 (l ++ signF neg ++ wholeF ds dp N ++ [46] ++ List.replicate Z.toNat 48 ++ (ds.drop (dp + Z).toNat).take k) wr)
                      case atStart => exact ⟨0, Nat.zero_add _, rfl, by simpa using HR5.out⟩
                      case round =>
                        as_aux_lemma =>
                          obtain ⟨k, hkg, rfl, hR6⟩ := hrel
                          have HK := Lib.hid hkg
                          have hk : (k : Int) ≤ M := by omega
                          clear hkg
                          have hlen : (l ++ signF neg ++ wholeF ds dp N ++ [46] ++ List.replicate Z.toNat 48 ++ (ds.drop (dp + Z).toNat).take k).length + 1 ≤ 140737488355328 := by
                            have := List.length_take_le k (ds.drop (dp + Z).toNat)
                            simp only [List.length_append, List.length_replicate, List.length_singleton]
                            omega
                          by_cases hlt : (k : Int) < M
                          · have hi := HIN.out (by omega)
                            have hj : (dp + Z + k).toNat < N := by omega
                            have hc := HC.out _ _ _ hR6 (dp + Z + k).toNat hj
                            have h0 : 0 ≤ dp + Z + k := by omega
                            have h1 : dp + Z + k < N := by omega
                            go_wp2_with (at_builtin; refine wpList_push hR6 (ds.getD (dp + Z + k).toNat 0) _ rfl hlen rfl _ _ rfl rfl rfl ?_; intro v' w' hR')
                            go_roundg (gk - 1)
                            case measure => have := HK.out; omega
                            case rel => exact ⟨k + 1, by have := HK.out; omega, by go_num, by rw [take_drop_snoc ds _ k (by omega), ← List.append_assoc, show (dp + Z).toNat + k = (dp + Z + k).toNat by omega]; exact hR'⟩
                          · have ek : k = M.toNat := by omega
                            subst ek
                            clear HK hlen
                            have HR6 := Lib.hid hR6
                            clear hR6
                            go_wp2_with (fail)
                            go_loopg [0, 261] T0.toNat (fun g s0 s1 wr => ∃ k : Nat, k + g = T0.toNat ∧ s1 = .int .i64 k ∧ BRow B w s0 (l ++ signF neg ++ wholeF ds dp N ++ [46] ++ List.replicate Z.toNat 48 ++ (ds.drop (dp + Z).toNat).take M.toNat ++ List.replicate k 48) wr)
                            case atStart => exact ⟨0, Nat.zero_add _, rfl, by simpa using HR6.out⟩
                            case round =>
                              as_aux_lemma =>
                                obtain ⟨k, hkg, rfl, hR7⟩ := hrel
                                have HK := Lib.hid hkg
                                have hk : (k : Int) ≤ T0 := by omega
                                clear hkg
                                have hlen : (l ++ signF neg ++ wholeF ds dp N ++ [46] ++ List.replicate Z.toNat 48 ++ (ds.drop (dp + Z).toNat).take M.toNat ++ List.replicate k 48).length + 1 ≤ 140737488355328 := by
                                  have := List.length_take_le M.toNat (ds.drop (dp + Z).toNat)
                                  simp only [List.length_append, List.length_replicate, List.length_singleton]
                                  omega
                                by_cases hlt : (k : Int) < T0
                                · go_wp2_with (at_builtin; refine wpList_push hR7 48 _ rfl hlen rfl _ _ rfl rfl rfl ?_; intro v' w' hR')
                                  go_roundg (gk - 1)
                                  case measure => have := HK.out; omega
                                  case rel => exact ⟨k + 1, by have := HK.out; omega, by go_num, by rw [List.replicate_succ', ← List.append_assoc]; exact hR'⟩
                                · have ek : k = T0.toNat := by omega
                                  subst ek
                                  clear HK hlen
                                  have HR7 := Lib.hid hR7
                                  clear hR7
                                  go_wp2_with (fail)
                                  go_meet
                                  rw [fracF_eq ds dp N P A Z M0 M T0 (by have := of_decide_eq_true HBQ.out; omega) HA.out HZ.out HM0.out HM.out HT0.out]
                                  simpa only [List.append_assoc] using HR7.out
          case rest =>
            as_aux_lemma =>
              have HR8 := Lib.hid hcut
              clear hcut
              go_wp2_with (fail)
              go_ret
              exact ⟨_, rfl, by have := HR8.out; simpa [fixF] using this⟩
end Go.Proofs.YtokmamakmaojpaaGreatDoor

/- A16. -/
namespace Go.Proofs.YtokmamakmaojpaaGreatDoor
open Go.RowKit

theorem ownsRow_still {w w' : World} {B : Nat} {e : TypeId} {v : Value} {n : Nat} {xs : List Value} (h : w.ownsRow B e 1 v n xs) (hb : Below w.heap.size w w') : w'.ownsRow B e 1 v n xs := by
  refine ⟨h.1, ?_⟩
  rcases h.2 with h1 | ⟨g, cap, cur, h1, h2, h3, h4⟩
  · exact Or.inl h1
  · exact Or.inr ⟨g, cap, cur, h1, h2, (hb.block g (Array.getElem?_eq_some_iff.1 h3).1).trans h3, h4⟩
theorem kept_below {e : TypeId} {w w' : World} (hb : Below w.heap.size w w') : Lib.OthersKept e none w w' := fun k o hk _ _ => (hb.block k (Array.getElem?_eq_some_iff.1 hk).1).trans hk
theorem BRow.still {B : Nat} {w0 w w' : World} {v : Value} {l : List UInt8} (h : BRow B w0 v l w) (hb : Below w.heap.size w w') : BRow B w0 v l w' :=
  ⟨ownsRow_still h.own hb, h.below.trans (hb.mono (Nat.le_trans h.base h.below.size)), h.kept.trans (kept_below hb), h.base⟩
theorem BRow.rebase {B : Nat} {w0 w : World} {v : Value} {l : List UInt8} (h : BRow B w0 v l w) : BRow B w v l w :=
  ⟨h.own, Below.refl _ _, Lib.OthersKept.refl _ _ _, Nat.le_trans h.base h.below.size⟩
theorem BRow.join {B : Nat} {w0 w1 w2 : World} {v v' : Value} {l l' : List UInt8} (h : BRow B w0 v l w1) (k : BRow B w1 v' l' w2) : BRow B w0 v' l' w2 :=
  ⟨k.own, h.below.trans k.below, h.kept.trans k.kept, h.base⟩

set_option maxHeartbeats 8000000 in
set_option maxRecDepth 100000 in
theorem fmtF_zero (B : Nat) (v : Value) (l : List UInt8) (neg sh : Bool) (ds : List UInt8) (dp : Int) (N : Nat) (prec : Int) (w : World) (hR : BRow B w v l w) (hl : l.length ≤ 1000)
    (hd0 : -1000 ≤ dp) (hd1 : dp ≤ 1000) (HN : Hid (N = 0)) (HDP : Hid (dp = 0)) (hn1 : N ≤ 1000) (hp0 : -1 ≤ prec) (hp1 : prec ≤ 1000) :
    Calls Tryz.prog 90 #[v, .bool neg, .slice none 0 0, .int .i64 dp, .int .i64 N, .int .i64 prec, .int .u8 102, .bool sh] w
      fun e w' => ∃ v', e = .returned v' ∧ BRow B w v' (l ++ fixF neg ds dp N prec) w' := by
  go_enter Tryz.func90, Tryz.ntmps90
  go_upto_if 178 with (fail)
  go_cut [0] (fun s0 wx => BRow B w s0 (l ++ signF neg) wx)
  case first =>
    as_aux_lemma =>
      cases neg
      · go_wp2_with (fail)
        go_meet
        simpa [signF] using hR
      · go_wp2_with (at_builtin; refine wpList_push hR 45 _ rfl (by omega) rfl _ _ rfl rfl rfl ?_; intro v' w' hR')
        go_meet
        simpa [signF] using hR'
  case rest =>
    as_aux_lemma =>
      obtain ⟨bp, hbp⟩ : ∃ bp, decide (0 < dp) = bp := ⟨_, rfl⟩
      go_upto_if 183 with (fail)
      have HBP := Lib.hid hbp
      clear hbp
      go_cut [0] (fun s0 wx => BRow B w s0 (l ++ signF neg ++ wholeF ds dp N) wx)
      case first =>
        as_aux_lemma =>
          have HR1 := Lib.hid hcut
          cases bp with
          | true =>
            exfalso
            have h1 := of_decide_eq_true HBP.out
            have h2 := HDP.out
            omega
          | false =>
            go_wp2_with (at_builtin; refine wpList_push hcut 48 _ rfl (by have := signF_length neg; simp only [List.length_append]; omega) rfl _ _ rfl rfl rfl ?_; intro v' w' hR')
            go_meet
            have hw : wholeF ds dp N = [48] := by unfold wholeF; rw [if_neg (of_decide_eq_false HBP.out)]
            rw [hw]
            exact hR'
      case rest =>
        as_aux_lemma =>
          clear HBP
          have HR3 := Lib.hid hcut
          clear hcut
          obtain ⟨bq, hbq⟩ : ∃ bq, decide (0 < prec) = bq := ⟨_, rfl⟩
          go_upto_if 213 with (fail)
          have HBQ := Lib.hid hbq
          clear hbq
          go_cut [0] (fun s0 wx => BRow B w s0 (l ++ signF neg ++ wholeF ds dp N ++ fracF ds dp N prec) wx)
          case first =>
            as_aux_lemma =>
              cases bq with
              | false =>
                go_wp2_with (fail)
                go_meet
                have hf : fracF ds dp N prec = [] := by unfold fracF; rw [if_neg (of_decide_eq_false HBQ.out)]
                rw [hf, List.append_nil]
                exact HR3.out
              | true =>
                have hlen : (l ++ signF neg ++ wholeF ds dp N).length + 1 ≤ 140737488355328 := by
                  have := wholeF_length ds dp N (by omega)
                  have := signF_length neg
                  simp only [List.length_append]
                  omega
                have hR3 := HR3.out
                obtain ⟨P, rfl⟩ : ∃ P : Nat, prec = P := ⟨prec.toNat, by have := of_decide_eq_true HBQ.out; omega⟩
                obtain ⟨A, hA⟩ : ∃ A, (if dp < 0 then -dp else 0) = A := ⟨_, rfl⟩
                obtain ⟨Z, hZ⟩ : ∃ Z, (if A < (P : Int) then A else P) = Z := ⟨_, rfl⟩
                obtain ⟨M0, hM0⟩ : ∃ M0, (if dp + Z < (N : Int) then (N : Int) - (dp + Z) else 0) = M0 := ⟨_, rfl⟩
                obtain ⟨M, hM⟩ : ∃ M, (if M0 < (P : Int) - Z then M0 else (P : Int) - Z) = M := ⟨_, rfl⟩
                obtain ⟨T0, hT0⟩ : ∃ T0, (if M < (P : Int) - Z then (P : Int) - Z - M else 0) = T0 := ⟨_, rfl⟩
                go_wp2_with (at_builtin; refine wpList_push hR3 46 _ rfl hlen rfl _ _ rfl rfl rfl ?_; intro v' w' hR')
                have HZ := Lib.hid hZ
                have HA := Lib.hid hA
                have HM0 := Lib.hid hM0
                have HM := Lib.hid hM
                have HT0 := Lib.hid hT0
                have hb : 0 ≤ Z ∧ Z ≤ P ∧ 0 ≤ M ∧ M ≤ (P : Int) - Z ∧ 0 ≤ T0 ∧ T0 ≤ P ∧ (0 < M → 0 ≤ dp + Z ∧ dp + Z + M ≤ N) := by
                  clear HZ HA HM0 HM HT0
                  split at hA <;> split at hZ <;> split at hM0 <;> split at hM <;> split at hT0 <;> omega
                clear hA hZ hM0 hM hT0
                obtain ⟨hZ0, hZ1, hM0, hM1, hT0, hT1, hin⟩ := hb
                have HIN := Lib.hid hin
                have HR4 := Lib.hid hR'
                have hlw := wholeF_length ds dp N (by omega)
                have hls := signF_length neg
                clear hin hR' hlen hR3 HR3
                go_loopg [0, 240] Z.toNat (fun g s0 s1 wr => ∃ k : Nat, k + g = Z.toNat ∧ s1 = .int .i64 k ∧ BRow B w s0 (l ++ signF neg ++ wholeF ds dp N ++ [46] ++ List.replicate k 48) wr)
                case atStart => exact ⟨0, Nat.zero_add _, rfl, by simpa using HR4.out⟩
                case round =>
                  as_aux_lemma =>
                    obtain ⟨k, hkg, rfl, hR5⟩ := hrel
                    have HK := Lib.hid hkg
                    have hk : (k : Int) ≤ Z := by omega
                    clear hkg
                    have hlen : (l ++ signF neg ++ wholeF ds dp N ++ [46] ++ List.replicate k 48).length + 1 ≤ 140737488355328 := by
                      simp only [List.length_append, List.length_replicate, List.length_singleton]
                      omega
                    by_cases hlt : (k : Int) < Z
                    · go_wp2_with (at_builtin; refine wpList_push hR5 48 _ rfl hlen rfl _ _ rfl rfl rfl ?_; intro v' w' hR')
                      go_roundg (gk - 1)
                      case measure => have := HK.out; omega
                      case rel => exact ⟨k + 1, by have := HK.out; omega, by go_num, by rw [List.replicate_succ', ← List.append_assoc]; exact hR'⟩
                    · have ek : k = Z.toNat := by omega
                      subst ek
                      clear HK hlen
                      have HR5 := Lib.hid hR5
                      clear hR5
                      go_wp2_with (fail)
                      go_loopg [0, 30, 247] M.toNat (fun g s0 _ s1 wr => ∃ k : Nat, k + g = M.toNat ∧ s1 = .int .i64 k ∧ BRow B w s0 (l ++ signF neg ++ wholeF ds dp N ++ [46] ++ List.replicate Z.toNat 48 ++ (ds.drop (dp + Z).toNat).take k) wr)
                      case atStart => exact ⟨0, Nat.zero_add _, rfl, by simpa using HR5.out⟩
                      case round =>
                        as_aux_lemma =>
                          obtain ⟨k, hkg, rfl, hR6⟩ := hrel
                          have HK := Lib.hid hkg
                          have hk : (k : Int) ≤ M := by omega
                          clear hkg
                          have hlen : (l ++ signF neg ++ wholeF ds dp N ++ [46] ++ List.replicate Z.toNat 48 ++ (ds.drop (dp + Z).toNat).take k).length + 1 ≤ 140737488355328 := by
                            have := List.length_take_le k (ds.drop (dp + Z).toNat)
                            simp only [List.length_append, List.length_replicate, List.length_singleton]
                            omega
                          by_cases hlt : (k : Int) < M
                          · exfalso
                            have hi := HIN.out (by omega)
                            have h1 := HN.out
                            have h2 := HDP.out
                            omega
                          · have ek : k = M.toNat := by omega
                            subst ek
                            clear HK hlen
                            have HR6 := Lib.hid hR6
                            clear hR6
                            go_wp2_with (fail)
                            go_loopg [0, 261] T0.toNat (fun g s0 s1 wr => ∃ k : Nat, k + g = T0.toNat ∧ s1 = .int .i64 k ∧ BRow B w s0 (l ++ signF neg ++ wholeF ds dp N ++ [46] ++ List.replicate Z.toNat 48 ++ (ds.drop (dp + Z).toNat).take M.toNat ++ List.replicate k 48) wr)
                            case atStart => exact ⟨0, Nat.zero_add _, rfl, by simpa using HR6.out⟩
                            case round =>
                              as_aux_lemma =>
                                obtain ⟨k, hkg, rfl, hR7⟩ := hrel
                                have HK := Lib.hid hkg
                                have hk : (k : Int) ≤ T0 := by omega
                                clear hkg
                                have hlen : (l ++ signF neg ++ wholeF ds dp N ++ [46] ++ List.replicate Z.toNat 48 ++ (ds.drop (dp + Z).toNat).take M.toNat ++ List.replicate k 48).length + 1 ≤ 140737488355328 := by
                                  have := List.length_take_le M.toNat (ds.drop (dp + Z).toNat)
                                  simp only [List.length_append, List.length_replicate, List.length_singleton]
                                  omega
                                by_cases hlt : (k : Int) < T0
                                · go_wp2_with (at_builtin; refine wpList_push hR7 48 _ rfl hlen rfl _ _ rfl rfl rfl ?_; intro v' w' hR')
                                  go_roundg (gk - 1)
                                  case measure => have := HK.out; omega
                                  case rel => exact ⟨k + 1, by have := HK.out; omega, by go_num, by rw [List.replicate_succ', ← List.append_assoc]; exact hR'⟩
                                · have ek : k = T0.toNat := by omega
                                  subst ek
                                  clear HK hlen
                                  have HR7 := Lib.hid hR7
                                  clear hR7
                                  go_wp2_with (fail)
                                  go_meet
                                  rw [fracF_eq ds dp N P A Z M0 M T0 (by have := of_decide_eq_true HBQ.out; omega) HA.out HZ.out HM0.out HM.out HT0.out]
                                  simpa only [List.append_assoc] using HR7.out
          case rest =>
            as_aux_lemma =>
              have HR8 := Lib.hid hcut
              clear hcut
              go_wp2_with (fail)
              go_ret
              exact ⟨_, rfl, by have := HR8.out; simpa [fixF] using this⟩

theorem fmtF_nil (B : Nat) (v : Value) (neg sh : Bool) (prec : Int) (w : World) (hR : BRow B w v [] w) (hp0 : -1 ≤ prec) (hp1 : prec ≤ 1000) :
    Calls Tryz.prog 90 #[v, .bool neg, .slice none 0 0, .int .i64 0, .int .i64 0, .int .i64 prec, .int .u8 102, .bool sh] w
      fun e w' => ∃ v', e = .returned v' ∧ BRow B w v' (fixF neg [] 0 0 prec) w' :=
  fmtF_zero B v [] neg sh [] 0 0 prec w hR (by simp) (by omega) (by omega) (Lib.hid rfl) (Lib.hid rfl) (by omega) hp0 hp1
end Go.Proofs.YtokmamakmaojpaaGreatDoor

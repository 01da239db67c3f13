/-
  What the law's walk gives, for every argument of bulk at most 2^20 and every world that holds the tables.
-/
import Derived.Test.YtokmamakmaojpaaGreatDoorM41
import Derived.Test.YtokmamakmaojpaaGreatDoorM39
import Derived.ProofKit
import Derived.WideKeyArgs
set_option linter.unusedVariables false
set_option linter.unusedSimpArgs false
set_option linter.unnecessarySimpa false
namespace Go.Proofs.YtokmamakmaojpaaGreatDoor
open Go.ChangeShapes Go.WideShapes Go.ChangeAt Go.RowKit

theorem zLaidOut : laidOutB Tryz.prog = true := by kernel_rfl
theorem zRec22 : Tryz.prog.readableRec 22 = true := by kernel_rfl
theorem zRow22 : 22 < Tryz.prog.types.size := of_decide_eq_true (by kernel_rfl)
/-- The specification's outcome where the call leaves all old blocks as they were. -/
theorem post_of_below {H : Type} {enc : TypeId × Value → H} {P : Program} {f : Func} {s : ChangeSpec} {apart fresh handsOn again : Bool} {W W' : World} {args : Array Value} {v : Value} {ds gs : List (DataW H)} {before pa pv : List MemPlace}
    (hW : DataW.Whole enc P f.params.toList s.vars apart W args.toList ds gs before) (hg : Below W.heap.size W W')
    (hres : ∀ (b : Nat) (sp : Nat → Bool) (hd : Bool), DataW.TrodAll enc P W' b sp hd f.resultTypes.toList (v.resultList f.resultTypes.size) (s.fn H (ds ++ gs)).results [])
    (hargs : ∀ sp : Nat → Bool, (∀ p ∈ before, sp p.block = true) → DataW.TrodAll enc P W' 0 sp true f.params.toList args.toList (s.fn H (ds ++ gs)).args pa)
    (hvars : ∀ sp : Nat → Bool, (∀ p ∈ before, sp p.block = true) → DataW.TrodVars enc P W' sp s.vars (s.fn H (ds ++ gs)).vars pv) (hps : before = pa ++ pv)
    (hok : ∀ (j : Nat) (t : TypeId) (r : Value), f.resultTypes[j]? = some t → (v.resultList f.resultTypes.size)[j]? = some r → Value.okWide P W' .any 0 t r) :
    s.post enc P f apart fresh handsOn again W args v W' := by
  have hlt := hW.lt
  have old : ∀ p ∈ before, (fun b => decide (b < W.heap.size)) p.block = true := fun p hp => decide_eq_true (hlt p hp)
  refine ⟨ds, gs, before, [], pa, pv, hW, hres _ _ _, hargs _ old, hvars _ old, hg.frame _, fun _ => ⟨hok, _, _, ([] ++ pa) ++ pv, ⟨[] ++ pa, pv, trodAll_append (hargs _ fun _ _ => rfl) (hres _ _ _), hvars _ fun _ _ => rfl, rfl, ?_, ?_⟩, ?_⟩⟩
  · obtain ⟨_, _, _, _, _, hz, _⟩ := hW
    intro b off hp
    rw [List.nil_append, ← hps] at hp
    rw [hg.frozen (p := ⟨b, off, none⟩) (hlt _ hp)]
    exact hz b off hp
  · obtain ⟨_, _, _, _, _, _, hn⟩ := hW
    intro ha
    rw [List.nil_append, ← hps]
    exact hn ha
  · intro p hp _
    rw [List.nil_append, ← hps] at hp
    exact hp
set_option maxRecDepth 100000 in
theorem contract (H : Type) (enc : TypeId × Value → H) (W : World) (base : Nat) (args : Array Value) (ds gs : List (DataW H)) (before : List MemPlace)
    (hval : ∀ (j : Nat) t v, Tryz.f3.params[j]? = some t → args[j]? = some v → Value.okWide Tryz.prog W .any base t v)
    (hW : DataW.Whole enc Tryz.prog Tryz.f3.params.toList Rows.fnManyTextsSpec.vars false W args.toList ds gs before) (hk : Rows.uptoSmall H (ds ++ gs) = true) (hL : laidMetH Tryz.prog Rows.fnManyTextsUptoRow.laid W) :
    Calls Tryz.prog 3 args W fun e W' => ∃ v, e = .returned v ∧ Rows.fnManyTextsSpec.post enc Tryz.prog Tryz.f3 false true false false W args v W' := by
  have hW' := hW
  obtain ⟨p, q, hA0, hV, rfl, hfz, hnd⟩ := hW
  have hA : DataW.TrodAll enc Tryz.prog W 0 (fun _ => true) true Tryz.f3.params.toList args.toList ds p := hA0
  rw [Tryz.params3] at hA hval
  obtain ⟨v0, v1, d0, d1, p0, p1, rfl, rfl, rfl, h0, h1⟩ := trodAll_two hA
  obtain ⟨rfl, rfl⟩ := trodVars_none hV
  obtain ⟨a0, len, cap, rfl⟩ := okWide_slice Tryz.underlying22 (hval 0 22 v0 rfl rfl)
  obtain ⟨z, rfl, rfl, rfl, wz⟩ := open_int Tryz.underlying3 (hval 1 3 v1 rfl rfl) h1
  clear hA0
  have h0k := h0
  obtain ⟨m, hm⟩ := h0
  obtain ⟨l, hl, hb⟩ := all_of (v := .slice a0 len cap) (x := (d0, p0)) hm
  have hb : wgts l + 1 ≤ Rows.uptoBulk d0 := hb
  have hbk : Rows.uptoBulkAll ([d0, (.lit (.int .i64 z) : DataW H)] ++ []) ≤ 1048576 := of_decide_eq_true hk
  simp only [List.append_nil, Rows.uptoBulkAll, Rows.uptoBulk] at hbk
  simp only [List.append_nil] at hW'
  have hlt := hW'.lt
  refine (law3 l z (by omega) _ W (tabs_of hL) hl).mono fun e W' ⟨he, hg⟩ => ?_
  subst he
  exact ⟨_, rfl, post_of_below (pa := p0) (pv := []) hW' hg (fun _ _ _ => trodAll_mk1 (shut_bool Tryz.underlying4 _))
    (fun sp hsp => by
      have := trodAll_mk2 (WideElems.Trod_stays zLaidOut zRec22 zRow22 h0k (fun x hx => hg.same (hlt x hx)) (fun x hx => hsp x hx)) (shut_int (w := W') (base := 0) (spare := sp) (held := true) (enc := enc) Tryz.underlying3 wz)
      rw [List.append_nil] at this
      exact this)
    (fun _ _ => rfl) (by rw [List.append_nil]) (ok_one (by kernel_rfl) rfl (okWide_bool_mk Tryz.underlying4 _))⟩
end Go.Proofs.YtokmamakmaojpaaGreatDoor

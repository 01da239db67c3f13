/-
  WHATEVER THE GEOMETRIES AND THE NUMBER OF DIGITS: the texts that one writer writes are those that are written one by one: the law returns true, and what came in reads as it did. Condition: what the law reads is of bulk at most 1048576 (the second form's). The two lists of Go's own (leftcheats, pow10Tab) are the form's constants; the other listed variables are tied to the program's text by the given Tie.
-/
import Derived.Test.YtokmamakmaojpaaGreatDoorM42
import Derived.Test.YtokmamakmaojpaaGreatDoorM43
import Derived.Test.YtokmamakmaojpaaGreatDoorCards
import Derived.Test.YtokmamakmaojpaaGreatDoorTie
import Derived.ProofKit
import Derived.Deep.DeepHandedRow
import Derived.SevenTiedAt
set_option linter.unusedVariables false
set_option linter.unusedSimpArgs false
set_option linter.unnecessarySimpa false
namespace Go.Proofs.YtokmamakmaojpaaGreatDoor
open Go.ChangeShapes Go.WideShapes Go.ChangeAt Go.RowKit

theorem zOwn : ownKnob Tryz.prog.godebug = none := by kernel_rfl
set_option maxRecDepth 100000 in
theorem liftedUpto (os : Os) (started : os.Started) (H : Type) (enc : TypeId × Value → H) (F : Stop.Interp) :
    ReturnsInHanded {} Tryz.checked os 3 .any ((Rows.OpenSpec.upto Rows.fnManyTextsSpec).preRow enc Tryz.prog Tryz.f3 Rows.fnManyTextsUptoRow.domain false Rows.fnManyTextsUptoRow.laid) (((Rows.OpenSpec.upto Rows.fnManyTextsSpec).at F).post enc Tryz.prog Tryz.f3 false true false false) := by
  obtain ⟨places, hx⟩ := z_reads os enc
  refine returnsInHanded_of_row (C := Tryz.checked) (s := Rows.OpenSpec.upto Rows.fnManyTextsSpec) zOwn started (by kernel_rfl) Tryz.func3
    ⟨zWorld os, fun _ _ => 0, ⟨#[], zArgs, []⟩, World.laidAll_os _ _ _, z_shaped os, (Input.okWide_of_okWideB (base := 0) (z_ok os)).1, (Input.okWide_of_okWideB (z_ok os)).2,
      OpenSpec.preRow_of_cond 8 hx (by kernel_rfl) (fun k hk => by cases hk; kernel_rfl) (by kernel_rfl) (z_met os), by
      simp only [Assume.holds]
      exact ⟨by simp, by simp, fun _ => Modest.zero, by simp, by simp⟩⟩ ?_
  intro W base args ds gs before hval hW _ hcond _ hL _ _
  exact contract H enc W base args ds gs before hval hW (hcond _ rfl) hL
theorem saidUpto : Rows.FnManyTextsUptoSaid :=
  OpenClaim.holds_of_cond 3 Tryz.f3 rfl rfl rfl rfl rfl rfl rfl ⟨rfl, rfl, rfl, rfl, rfl⟩ rfl rfl rfl rfl rfl (by kernel_rfl) Tryz.func3 (by kernel_rfl)
    (of_decide_eq_true (by kernel_rfl)) (by unfold Func.isWrapper; first | (rw [if_pos (by decide +kernel)]; kernel_rfl) | (rw [if_neg (by decide +kernel)]; exact ⟨rfl, rfl⟩))
    (fun os started H enc _ F => by rw [OpenClaim.pre_eq_preRow]; exact liftedUpto os started H enc F)
theorem zPlain (f : FuncId) (fn : Func) (hf : Tryz.pinned.checked.prog.funcNamed "pub-loxodrome/laws.FnManyTexts" = some f) (hfn : Tryz.pinned.checked.prog.funcs[f]? = some fn) :
    true = Tryz.pinned.checked.prog.looks [] ∧ ∀ (j : Nat) t, fn.params[j]? = some t → Tryz.pinned.checked.prog.wantsStandIn t = false := by
  obtain rfl : f = 3 := Option.some.inj ((show Tryz.prog.funcNamed "pub-loxodrome/laws.FnManyTexts" = some 3 by kernel_rfl).symm.trans hf) |>.symm
  obtain rfl : fn = Tryz.f3 := (Option.some.inj (Tryz.func3.symm.trans hfn)).symm
  refine ⟨by kernel_rfl, fun j t ht => ?_⟩
  rw [Tryz.params3] at ht
  have hm : t ∈ [22, 3] := by simpa using Array.mem_of_getElem? ht
  have hall : ([22, 3].all fun u => !Tryz.prog.wantsStandIn u) = true := by kernel_rfl
  exact (show Tryz.prog.wantsStandIn t = false by simpa using List.all_eq_true.1 hall t hm)
/-- The second form's card. -/
theorem many_texts : Rows.FnManyTextsUptoCardSaid :=
  Claim7.holds_tied_plain_at .later [] _ _ _ _ saidUpto (fun _ h => by cases h) (by kernel_rfl) (fun _ h => by cases h) fnManyTextsUpto_row_tie rfl ⟨rfl, rfl⟩ (by kernel_rfl) rfl zPlain (by kernel_rfl)
#print axioms many_texts
end Go.Proofs.YtokmamakmaojpaaGreatDoor

/-
  A start for the witness: the tables laid, an empty slice, no digit.
-/
import Derived.Test.YtokmamakmaojpaaGreatDoorRows
import Derived.ProofKit
import Derived.Deep.DeepHandedRow
import Derived.Lay
set_option linter.unusedVariables false
set_option linter.unusedSimpArgs false
namespace Go.Proofs.YtokmamakmaojpaaGreatDoor
open Go.ChangeShapes Go.WideShapes Go.ChangeAt Go.RowKit

noncomputable abbrev zWorld (os : Os) : World := World.laidAll Tryz.prog os Rows.fnManyTextsUptoRow.laid
abbrev zArgs : Array Value := #[.slice none 0 0, .int .i64 0]
theorem z_met (os : Os) : laidMetH Tryz.prog Rows.fnManyTextsUptoRow.laid ((zWorld os).forCall (fun _ _ => 0) ⟨#[], zArgs, []⟩).memory := by
  have h : laidMet Tryz.prog Rows.fnManyTextsUptoRow.laid ((zWorld os).forCall (fun _ _ => 0) ⟨#[], zArgs, []⟩).memory := laidMet_laidAll _ (by kernel_rfl) (by kernel_rfl)
  exact h
theorem z_shaped (os : Os) : ((zWorld os).forCall (fun _ _ => 0) ⟨#[], zArgs, []⟩).Shaped Tryz.prog := World.shaped_of_ZipB (by kernel_rfl) (by kernel_rfl)
theorem z_ok (os : Os) : Input.okWideB Tryz.prog ((zWorld os).forCall (fun _ _ => 0) ⟨#[], zArgs, []⟩) 3 ⟨#[], zArgs, []⟩ = true := by kernel_rfl
theorem z_reads (os : Os) {H : Type} (enc : TypeId × Value → H) : ∃ places, DataW.whole enc Tryz.prog ((zWorld os).forCall (fun _ _ => 0) ⟨#[], zArgs, []⟩).memory Tryz.f3.params.toList Rows.fnManyTextsSpec.vars false zArgs.toList 8 = some ([.nil, .lit (.int .i64 0)], [], places) :=
  ⟨[], by kernel_rfl⟩
end Go.Proofs.YtokmamakmaojpaaGreatDoor

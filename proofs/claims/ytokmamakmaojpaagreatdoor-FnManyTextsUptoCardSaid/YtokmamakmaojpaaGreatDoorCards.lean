/-
  DERIVED. GIVEN WITH THE SEED: THE CARDS: each row of YtokmamakmaojpaaGreatDoorRows.lean that lists a variable, with what it lists TIED to the program's text (the seventh form; the later family's looks); each row that meets fmt, with fmt's text TOLD by the authors' own Lean function (tested against real Go, not proved from fmt's source: count such statements apart). THE CARD IS WHAT COUNTS. Prove the row's statement (the work); the ties are given (YtokmamakmaojpaaGreatDoorTie.lean); close each card by the builder's one call (the guide's Derived/Test/ToyasCard.lean, 'card_holds'). Laid BY PROGRAM, IN A SANDBOX (cutbox-door.mjs). By AI agents, Wed Nov 11 2026. No macro, syntax, notation, axiom, sorry.
-/
import Derived.Test.YtokmamakmaojpaaGreatDoorRows
import GoSem.ClaimSeven
namespace Go.Proofs.YtokmamakmaojpaaGreatDoor
namespace Rows

/-- THE TIED CARD OF 'laws.FnManyTexts'. -/
def fnManyTextsCard : Claim7 := { stood := { row := fnManyTextsRow, standIns := [], harness := (true, "9cc387e34accf5bd4aab3717bb6d2c2e998b50db2d41d2517b6d06358f03a259"), looks := true }, kinds := [], alts := [], laidByText := true, laidKinds := [.data, .data, .data, .data, .pinned, .pinned], laidTests := true, laidLooks := .later }
def FnManyTextsCardSaid : Prop := Claim7.holds Tryz.pinned (.plain (OpenSpec.ofChange fnManyTextsSpec)) fnManyTextsCard

/-- THE SECOND FORM's CARD OF 'laws.FnManyTexts'. -/
def fnManyTextsUptoCard : Claim7 := { stood := { row := fnManyTextsUptoRow, standIns := [], harness := (true, "9cc387e34accf5bd4aab3717bb6d2c2e998b50db2d41d2517b6d06358f03a259"), looks := true }, kinds := [], alts := [], laidByText := true, laidKinds := [.data, .data, .data, .data, .pinned, .pinned], laidTests := true, laidLooks := .later }
def FnManyTextsUptoCardSaid : Prop := Claim7.holds Tryz.pinned (.plain (OpenSpec.upto fnManyTextsSpec)) fnManyTextsUptoCard
end Rows
end Go.Proofs.YtokmamakmaojpaaGreatDoor

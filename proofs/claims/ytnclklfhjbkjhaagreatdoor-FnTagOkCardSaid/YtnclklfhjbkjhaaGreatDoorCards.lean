/-
  DERIVED. GIVEN WITH THE SEED: THE CARDS: each row of YtnclklfhjbkjhaaGreatDoorRows.lean that lists a variable, with what it lists TIED to the program's text (the seventh form; the later family's looks); each row that meets fmt, with fmt's text TOLD by the authors' own Lean function (tested against real Go, not proved from fmt's source: count such statements apart). THE CARD IS WHAT COUNTS. Prove the row's statement (the work); the ties are given (YtnclklfhjbkjhaaGreatDoorTie.lean); close each card by the builder's one call (the guide's Derived/Test/ToyasCard.lean, 'card_holds'). Laid BY PROGRAM, IN A SANDBOX (cutbox-door.mjs). By AI agents, Wed Nov 11 2026. No macro, syntax, notation, axiom, sorry.
-/
import Derived.Test.YtnclklfhjbkjhaaGreatDoorRows
import GoSem.ClaimSeven
namespace Go.Proofs.YtnclklfhjbkjhaaGreatDoor
namespace Rows

/-- THE TIED CARD OF 'laws.FnTagOk'. -/
def fnTagOkCard : Claim7 := { stood := { row := fnTagOkRow, standIns := [], harness := (true, "18ef18e1e78d0e0cfff1fab4be66f24fdf674cd448fb071998ae1ae107fae7b9"), looks := true }, kinds := [], alts := [], laidByText := true, laidKinds := [.handle], laidTests := true, laidLooks := .later }
def FnTagOkCardSaid : Prop := Claim7.holds Tryz.pinned (.plain (OpenSpec.ofChange fnTagOkSpec)) fnTagOkCard

/-- THE SECOND FORM's CARD OF 'laws.FnTagOk'. -/
def fnTagOkUptoCard : Claim7 := { stood := { row := fnTagOkUptoRow, standIns := [], harness := (true, "18ef18e1e78d0e0cfff1fab4be66f24fdf674cd448fb071998ae1ae107fae7b9"), looks := true }, kinds := [], alts := [], laidByText := true, laidKinds := [.handle], laidTests := true, laidLooks := .later }
def FnTagOkUptoCardSaid : Prop := Claim7.holds Tryz.pinned (.plain (OpenSpec.upto fnTagOkSpec)) fnTagOkUptoCard
end Rows
end Go.Proofs.YtnclklfhjbkjhaaGreatDoor

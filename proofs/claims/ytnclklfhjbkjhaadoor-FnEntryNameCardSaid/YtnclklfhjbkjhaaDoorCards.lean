/-
  DERIVED. GIVEN WITH THE SEED: THE CARDS: each row of YtnclklfhjbkjhaaDoorRows.lean that lists a variable, with what it lists TIED to the program's text (the seventh form; the later family's looks); each row that meets fmt, with fmt's text TOLD by the authors' own Lean function (tested against real Go, not proved from fmt's source: count such statements apart). THE CARD IS WHAT COUNTS. Prove the row's statement (the work); the ties are given (YtnclklfhjbkjhaaDoorTie.lean); close each card by the builder's one call (the guide's Derived/Test/ToyasCard.lean, 'card_holds'). Laid BY PROGRAM, IN A SANDBOX (cutbox-door.mjs). By AI agents, Wed Nov 11 2026. No macro, syntax, notation, axiom, sorry.
-/
import Derived.Test.YtnclklfhjbkjhaaDoorRows
import GoSem.ClaimSeven
namespace Go.Proofs.YtnclklfhjbkjhaaDoor
namespace Rows

/-- THE TIED CARD OF 'laws.FnJsonName'. -/
def fnJsonNameCard : Claim7 := { stood := { row := fnJsonNameRow, standIns := [], harness := (true, "872b4a95c8b45400c81bb60cdd4f54112b2aa3210f18064fb37b58a81202c678"), looks := false }, kinds := [], alts := [], laidByText := true, laidKinds := [.pinned], laidTests := true, laidLooks := .later }
def FnJsonNameCardSaid : Prop := Claim7.holds Tryd.pinned (.plain (OpenSpec.ofChange fnJsonNameSpec)) fnJsonNameCard

/-- THE TIED CARD OF 'laws.FnEntryName'. -/
def fnEntryNameCard : Claim7 := { stood := { row := fnEntryNameRow, standIns := [], harness := (true, "872b4a95c8b45400c81bb60cdd4f54112b2aa3210f18064fb37b58a81202c678"), looks := false }, kinds := [], alts := [], laidByText := true, laidKinds := [.data, .pinned, .pinned], laidTests := true, laidLooks := .later }
def FnEntryNameCardSaid : Prop := Claim7.holds Tryd.pinned (.plain (OpenSpec.ofChange fnEntryNameSpec)) fnEntryNameCard

/-- THE SECOND FORM's CARD OF 'laws.FnJsonName'. -/
def fnJsonNameUptoCard : Claim7 := { stood := { row := fnJsonNameUptoRow, standIns := [], harness := (true, "872b4a95c8b45400c81bb60cdd4f54112b2aa3210f18064fb37b58a81202c678"), looks := false }, kinds := [], alts := [], laidByText := true, laidKinds := [.pinned], laidTests := true, laidLooks := .later }
def FnJsonNameUptoCardSaid : Prop := Claim7.holds Tryd.pinned (.plain (OpenSpec.upto fnJsonNameSpec)) fnJsonNameUptoCard

/-- THE SECOND FORM's CARD OF 'laws.FnEntryName'. -/
def fnEntryNameUptoCard : Claim7 := { stood := { row := fnEntryNameUptoRow, standIns := [], harness := (true, "872b4a95c8b45400c81bb60cdd4f54112b2aa3210f18064fb37b58a81202c678"), looks := false }, kinds := [], alts := [], laidByText := true, laidKinds := [.data, .pinned, .pinned], laidTests := true, laidLooks := .later }
def FnEntryNameUptoCardSaid : Prop := Claim7.holds Tryd.pinned (.plain (OpenSpec.upto fnEntryNameSpec)) fnEntryNameUptoCard
end Rows
end Go.Proofs.YtnclklfhjbkjhaaDoor

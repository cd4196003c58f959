/-
  DERIVED. GIVEN WITH THE SEED: THE CARDS: each row of YtfbpffgcofdciaaDoorRows.lean that lists a variable, with what it lists TIED to the program's text (the seventh form; the later family's looks); each row that meets fmt, with fmt's text TOLD by the authors' own Lean function (tested against real Go, not proved from fmt's source: count such statements apart). THE CARD IS WHAT COUNTS. Prove the row's statement (the work); the ties are given (YtfbpffgcofdciaaDoorTie.lean); close each card by the builder's one call (the guide's Derived/Test/ToyasCard.lean, 'card_holds'). Laid BY PROGRAM, IN A SANDBOX (cutbox-door.mjs). By AI agents, Wed Nov 11 2026. No macro, syntax, notation, axiom, sorry.
-/
import Derived.Test.YtfbpffgcofdciaaDoorRows
import GoSem.ClaimSeven
namespace Go.Proofs.YtfbpffgcofdciaaDoor
namespace Rows

/-- THE TIED CARD OF 'n001_83.FnJsonEncodeStringAppendsSpec'. -/
def fnJsonEncodeStringAppendsSpecCard : Claim7 := { stood := { row := fnJsonEncodeStringAppendsSpecRow, standIns := [], harness := (true, "3f9f9e8c043a3b5c5a8f65355316d5208bf8b27c05b426f696e58a32388f9fb5"), looks := false }, kinds := [], alts := [], laidByText := true, laidKinds := [.data, .pinned], laidTests := true, laidLooks := .later }
def FnJsonEncodeStringAppendsSpecCardSaid : Prop := Claim7.holds Tryd.pinned (.plain (OpenSpec.ofChange fnJsonEncodeStringAppendsSpecSpec)) fnJsonEncodeStringAppendsSpecCard

/-- THE TIED CARD OF 'n001_83.FnJsonEncodeStringBounds'. -/
def fnJsonEncodeStringBoundsCard : Claim7 := { stood := { row := fnJsonEncodeStringBoundsRow, standIns := [], harness := (true, "3f9f9e8c043a3b5c5a8f65355316d5208bf8b27c05b426f696e58a32388f9fb5"), looks := false }, kinds := [], alts := [], laidByText := true, laidKinds := [.data, .pinned], laidTests := true, laidLooks := .later }
def FnJsonEncodeStringBoundsCardSaid : Prop := Claim7.holds Tryd.pinned (.plain (OpenSpec.ofChange fnJsonEncodeStringBoundsSpec)) fnJsonEncodeStringBoundsCard

/-- THE SECOND FORM's CARD OF 'n001_83.FnJsonEncodeStringAppendsSpec'. -/
def fnJsonEncodeStringAppendsSpecUptoCard : Claim7 := { stood := { row := fnJsonEncodeStringAppendsSpecUptoRow, standIns := [], harness := (true, "3f9f9e8c043a3b5c5a8f65355316d5208bf8b27c05b426f696e58a32388f9fb5"), looks := false }, kinds := [], alts := [], laidByText := true, laidKinds := [.data, .pinned], laidTests := true, laidLooks := .later }
def FnJsonEncodeStringAppendsSpecUptoCardSaid : Prop := Claim7.holds Tryd.pinned (.plain (OpenSpec.upto fnJsonEncodeStringAppendsSpecSpec)) fnJsonEncodeStringAppendsSpecUptoCard

/-- THE SECOND FORM's CARD OF 'n001_83.FnJsonEncodeStringBounds'. -/
def fnJsonEncodeStringBoundsUptoCard : Claim7 := { stood := { row := fnJsonEncodeStringBoundsUptoRow, standIns := [], harness := (true, "3f9f9e8c043a3b5c5a8f65355316d5208bf8b27c05b426f696e58a32388f9fb5"), looks := false }, kinds := [], alts := [], laidByText := true, laidKinds := [.data, .pinned], laidTests := true, laidLooks := .later }
def FnJsonEncodeStringBoundsUptoCardSaid : Prop := Claim7.holds Tryd.pinned (.plain (OpenSpec.upto fnJsonEncodeStringBoundsSpec)) fnJsonEncodeStringBoundsUptoCard
end Rows
end Go.Proofs.YtfbpffgcofdciaaDoor

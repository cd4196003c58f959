/-
  DERIVED. GIVEN WITH THE SEED: THE CARDS: each row of YtghcggagpagfoaaGreatDoorRows.lean that lists a variable, with what it lists TIED to the program's text (the seventh form; the later family's looks); each row that meets fmt, with fmt's text TOLD by the authors' own Lean function (tested against real Go, not proved from fmt's source: count such statements apart). THE CARD IS WHAT COUNTS. Prove the row's statement (the work); the ties are given (YtghcggagpagfoaaGreatDoorTie.lean); close each card by the builder's one call (the guide's Derived/Test/ToyasCard.lean, 'card_holds'). Laid BY PROGRAM, IN A SANDBOX (cutbox-door.mjs). By AI agents, Wed Nov 11 2026. No macro, syntax, notation, axiom, sorry.
-/
import Derived.Test.YtghcggagpagfoaaGreatDoorRows
import GoSem.ClaimSeven
namespace Go.Proofs.YtghcggagpagfoaaGreatDoor
namespace Rows

/-- THE TIED CARD OF 'n001_1001.FnTop'. -/
def fnTopCard : Claim7 := { stood := { row := fnTopRow, standIns := [], harness := (true, "eb583aad50de039b73e9a81a4fb3bc50dad8d0c56fe0be58f17ece3db16cc631"), looks := false }, kinds := [], alts := [], laidByText := true, laidKinds := [.data, .listed, .data, .pinned], laidTests := true, laidLooks := .later }
def FnTopCardSaid : Prop := Claim7.holds Tryz.pinned (.plain (OpenSpec.ofChange fnTopSpec)) fnTopCard

/-- THE SECOND FORM's CARD OF 'n001_1001.FnTop'. -/
def fnTopUptoCard : Claim7 := { stood := { row := fnTopUptoRow, standIns := [], harness := (true, "eb583aad50de039b73e9a81a4fb3bc50dad8d0c56fe0be58f17ece3db16cc631"), looks := false }, kinds := [], alts := [], laidByText := true, laidKinds := [.data, .listed, .data, .pinned], laidTests := true, laidLooks := .later }
def FnTopUptoCardSaid : Prop := Claim7.holds Tryz.pinned (.plain (OpenSpec.upto fnTopSpec)) fnTopUptoCard
end Rows
end Go.Proofs.YtghcggagpagfoaaGreatDoor

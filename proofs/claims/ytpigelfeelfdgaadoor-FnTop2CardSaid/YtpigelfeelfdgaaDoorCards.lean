/-
  DERIVED. GIVEN WITH THE SEED: THE CARDS: each row of YtpigelfeelfdgaaDoorRows.lean that lists a variable, with what it lists TIED to the program's text (the seventh form; the later family's looks); each row that meets fmt, with fmt's text TOLD by the authors' own Lean function (tested against real Go, not proved from fmt's source: count such statements apart). THE CARD IS WHAT COUNTS. Prove the row's statement (the work); the ties are given (YtpigelfeelfdgaaDoorTie.lean); close each card by the builder's one call (the guide's Derived/Test/ToyasCard.lean, 'card_holds'). Laid BY PROGRAM, IN A SANDBOX (cutbox-door.mjs). By AI agents, Wed Nov 11 2026. No macro, syntax, notation, axiom, sorry.
-/
import Derived.Test.YtpigelfeelfdgaaDoorRows
import GoSem.ClaimSeven
namespace Go.Proofs.YtpigelfeelfdgaaDoor
namespace Rows

/-- THE TIED CARD OF 'n001_1001.FnTop2'. -/
def fnTop2Card : Claim7 := { stood := { row := fnTop2Row, standIns := [], harness := (true, "cc1cc919c868d26e37887bd5feb94724d1ec2a3cd31c5ef97aca4ac17898505b"), looks := false }, kinds := [], alts := [], laidByText := true, laidKinds := [.data, .pinned], laidTests := true, laidLooks := .later }
def FnTop2CardSaid : Prop := Claim7.holds Tryd.pinned (.plain (OpenSpec.ofChange fnTop2Spec)) fnTop2Card

/-- THE SECOND FORM's CARD OF 'n001_1001.FnTop2'. -/
def fnTop2UptoCard : Claim7 := { stood := { row := fnTop2UptoRow, standIns := [], harness := (true, "cc1cc919c868d26e37887bd5feb94724d1ec2a3cd31c5ef97aca4ac17898505b"), looks := false }, kinds := [], alts := [], laidByText := true, laidKinds := [.data, .pinned], laidTests := true, laidLooks := .later }
def FnTop2UptoCardSaid : Prop := Claim7.holds Tryd.pinned (.plain (OpenSpec.upto fnTop2Spec)) fnTop2UptoCard
end Rows
end Go.Proofs.YtpigelfeelfdgaaDoor

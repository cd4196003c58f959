/-
  DERIVED. GIVEN WITH THE SEED: THE CARDS: each row of YtgbkjdndbjaeoaaDoorRows.lean that lists a variable, with what it lists TIED to the program's text (the seventh form; the later family's looks); each row that meets fmt, with fmt's text TOLD by the authors' own Lean function (tested against real Go, not proved from fmt's source: count such statements apart). THE CARD IS WHAT COUNTS. Prove the row's statement (the work); the ties are given (YtgbkjdndbjaeoaaDoorTie.lean); close each card by the builder's one call (the guide's Derived/Test/ToyasCard.lean, 'card_holds'). Laid BY PROGRAM, IN A SANDBOX (cutbox-door.mjs). By AI agents, Wed Nov 11 2026. No macro, syntax, notation, axiom, sorry.
-/
import Derived.Test.YtgbkjdndbjaeoaaDoorRows
import GoSem.ClaimSeven
namespace Go.Proofs.YtgbkjdndbjaeoaaDoor
namespace Rows

/-- THE TIED CARD OF 'n001_1001.FnTop3'. -/
def fnTop3Card : Claim7 := { stood := { row := fnTop3Row, standIns := [], harness := (true, "da44acc06ece861e13ab3e21ab6106029b5a7a4442c6ded6d663818126b106aa"), looks := false }, kinds := [], alts := [], laidByText := true, laidKinds := [.data, .pinned], laidTests := true, laidLooks := .later }
def FnTop3CardSaid : Prop := Claim7.holds Tryd.pinned (.plain (OpenSpec.ofChange fnTop3Spec)) fnTop3Card

/-- THE SECOND FORM's CARD OF 'n001_1001.FnTop3'. -/
def fnTop3UptoCard : Claim7 := { stood := { row := fnTop3UptoRow, standIns := [], harness := (true, "da44acc06ece861e13ab3e21ab6106029b5a7a4442c6ded6d663818126b106aa"), looks := false }, kinds := [], alts := [], laidByText := true, laidKinds := [.data, .pinned], laidTests := true, laidLooks := .later }
def FnTop3UptoCardSaid : Prop := Claim7.holds Tryd.pinned (.plain (OpenSpec.upto fnTop3Spec)) fnTop3UptoCard
end Rows
end Go.Proofs.YtgbkjdndbjaeoaaDoor

/-
  DERIVED. GIVEN WITH THE SEED: THE CARDS: each row of YtjflnoghecnigaaDoorRows.lean that lists a variable, with what it lists TIED to the program's text (the seventh form; the later family's looks); each row that meets fmt, with fmt's text TOLD by the authors' own Lean function (tested against real Go, not proved from fmt's source: count such statements apart). THE CARD IS WHAT COUNTS. Prove the row's statement (the work); the ties are given (YtjflnoghecnigaaDoorTie.lean); close each card by the builder's one call (the guide's Derived/Test/ToyasCard.lean, 'card_holds'). Laid BY PROGRAM, IN A SANDBOX (cutbox-door.mjs). By AI agents, Wed Nov 11 2026. No macro, syntax, notation, axiom, sorry.
-/
import Derived.Test.YtjflnoghecnigaaDoorRows
import GoSem.ClaimSeven
namespace Go.Proofs.YtjflnoghecnigaaDoor
namespace Rows

/-- THE TIED CARD OF 'n001_98.FnASCIIUpcaseMatchesByteModel'. -/
def fnASCIIUpcaseMatchesByteModelCard : Claim7 := { stood := { row := fnASCIIUpcaseMatchesByteModelRow, standIns := [], harness := (true, "f3b7fb6dcaebff98af6e163457f2d5f8803750b0e5718a867ea7d99d332d4809"), looks := true }, kinds := [], alts := [], laidByText := true, laidKinds := [.data, .pinned], laidTests := true, laidLooks := .later }
def FnASCIIUpcaseMatchesByteModelCardSaid : Prop := Claim7.holds Tryd.pinned (.plain (OpenSpec.ofChange fnASCIIUpcaseMatchesByteModelSpec)) fnASCIIUpcaseMatchesByteModelCard

/-- THE TIED CARD OF 'n001_98.FnASCIIUpcaseIdempotentAndAbsorbsDowncase'. -/
def fnASCIIUpcaseIdempotentAndAbsorbsDowncaseCard : Claim7 := { stood := { row := fnASCIIUpcaseIdempotentAndAbsorbsDowncaseRow, standIns := [], harness := (true, "f3b7fb6dcaebff98af6e163457f2d5f8803750b0e5718a867ea7d99d332d4809"), looks := true }, kinds := [], alts := [], laidByText := true, laidKinds := [.data, .pinned], laidTests := true, laidLooks := .later }
def FnASCIIUpcaseIdempotentAndAbsorbsDowncaseCardSaid : Prop := Claim7.holds Tryd.pinned (.plain (OpenSpec.ofChange fnASCIIUpcaseIdempotentAndAbsorbsDowncaseSpec)) fnASCIIUpcaseIdempotentAndAbsorbsDowncaseCard

/-- THE SECOND FORM's CARD OF 'n001_98.FnASCIIUpcaseMatchesByteModel'. -/
def fnASCIIUpcaseMatchesByteModelUptoCard : Claim7 := { stood := { row := fnASCIIUpcaseMatchesByteModelUptoRow, standIns := [], harness := (true, "f3b7fb6dcaebff98af6e163457f2d5f8803750b0e5718a867ea7d99d332d4809"), looks := true }, kinds := [], alts := [], laidByText := true, laidKinds := [.data, .pinned], laidTests := true, laidLooks := .later }
def FnASCIIUpcaseMatchesByteModelUptoCardSaid : Prop := Claim7.holds Tryd.pinned (.plain (OpenSpec.upto fnASCIIUpcaseMatchesByteModelSpec)) fnASCIIUpcaseMatchesByteModelUptoCard

/-- THE SECOND FORM's CARD OF 'n001_98.FnASCIIUpcaseIdempotentAndAbsorbsDowncase'. -/
def fnASCIIUpcaseIdempotentAndAbsorbsDowncaseUptoCard : Claim7 := { stood := { row := fnASCIIUpcaseIdempotentAndAbsorbsDowncaseUptoRow, standIns := [], harness := (true, "f3b7fb6dcaebff98af6e163457f2d5f8803750b0e5718a867ea7d99d332d4809"), looks := true }, kinds := [], alts := [], laidByText := true, laidKinds := [.data, .pinned], laidTests := true, laidLooks := .later }
def FnASCIIUpcaseIdempotentAndAbsorbsDowncaseUptoCardSaid : Prop := Claim7.holds Tryd.pinned (.plain (OpenSpec.upto fnASCIIUpcaseIdempotentAndAbsorbsDowncaseSpec)) fnASCIIUpcaseIdempotentAndAbsorbsDowncaseUptoCard
end Rows
end Go.Proofs.YtjflnoghecnigaaDoor

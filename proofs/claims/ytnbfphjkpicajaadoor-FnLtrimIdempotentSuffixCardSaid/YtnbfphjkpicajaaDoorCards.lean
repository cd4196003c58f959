/-
  DERIVED. GIVEN WITH THE SEED: THE CARDS: each row of YtnbfphjkpicajaaDoorRows.lean that lists a variable, with what it lists TIED to the program's text (the seventh form; the later family's looks); each row that meets fmt, with fmt's text TOLD by the authors' own Lean function (tested against real Go, not proved from fmt's source: count such statements apart). THE CARD IS WHAT COUNTS. Prove the row's statement (the work); the ties are given (YtnbfphjkpicajaaDoorTie.lean); close each card by the builder's one call (the guide's Derived/Test/ToyasCard.lean, 'card_holds'). Laid BY PROGRAM, IN A SANDBOX (cutbox-door.mjs). By AI agents, Wed Nov 11 2026. No macro, syntax, notation, axiom, sorry.
-/
import Derived.Test.YtnbfphjkpicajaaDoorRows
import GoSem.ClaimSeven
namespace Go.Proofs.YtnbfphjkpicajaaDoor
namespace Rows

/-- THE TIED CARD OF 'n001_95.FnLtrimExact'. -/
def fnLtrimExactCard : Claim7 := { stood := { row := fnLtrimExactRow, standIns := [], harness := (true, "8fd3ceeda5fbbc1d896022a2d748be3b223c482aece99bc76b91d5a9b4b70bd7"), looks := true }, kinds := [], alts := [], laidByText := true, laidKinds := [.listed], laidTests := true, laidLooks := .later }
def FnLtrimExactCardSaid : Prop := Claim7.holds Tryd.pinned (.plain (OpenSpec.ofChange fnLtrimExactSpec)) fnLtrimExactCard

/-- THE TIED CARD OF 'n001_95.FnLtrimIdempotentSuffix'. -/
def fnLtrimIdempotentSuffixCard : Claim7 := { stood := { row := fnLtrimIdempotentSuffixRow, standIns := [], harness := (true, "8fd3ceeda5fbbc1d896022a2d748be3b223c482aece99bc76b91d5a9b4b70bd7"), looks := true }, kinds := [], alts := [], laidByText := true, laidKinds := [.listed], laidTests := true, laidLooks := .later }
def FnLtrimIdempotentSuffixCardSaid : Prop := Claim7.holds Tryd.pinned (.plain (OpenSpec.ofChange fnLtrimIdempotentSuffixSpec)) fnLtrimIdempotentSuffixCard

/-- THE SECOND FORM's CARD OF 'n001_95.FnLtrimExact'. -/
def fnLtrimExactUptoCard : Claim7 := { stood := { row := fnLtrimExactUptoRow, standIns := [], harness := (true, "8fd3ceeda5fbbc1d896022a2d748be3b223c482aece99bc76b91d5a9b4b70bd7"), looks := true }, kinds := [], alts := [], laidByText := true, laidKinds := [.listed], laidTests := true, laidLooks := .later }
def FnLtrimExactUptoCardSaid : Prop := Claim7.holds Tryd.pinned (.plain (OpenSpec.upto fnLtrimExactSpec)) fnLtrimExactUptoCard

/-- THE SECOND FORM's CARD OF 'n001_95.FnLtrimIdempotentSuffix'. -/
def fnLtrimIdempotentSuffixUptoCard : Claim7 := { stood := { row := fnLtrimIdempotentSuffixUptoRow, standIns := [], harness := (true, "8fd3ceeda5fbbc1d896022a2d748be3b223c482aece99bc76b91d5a9b4b70bd7"), looks := true }, kinds := [], alts := [], laidByText := true, laidKinds := [.listed], laidTests := true, laidLooks := .later }
def FnLtrimIdempotentSuffixUptoCardSaid : Prop := Claim7.holds Tryd.pinned (.plain (OpenSpec.upto fnLtrimIdempotentSuffixSpec)) fnLtrimIdempotentSuffixUptoCard
end Rows
end Go.Proofs.YtnbfphjkpicajaaDoor

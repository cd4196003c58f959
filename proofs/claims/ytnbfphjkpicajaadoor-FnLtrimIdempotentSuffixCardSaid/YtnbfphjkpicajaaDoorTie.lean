/-
  DERIVED. GIVEN WITH THE SEED: THE PROGRAM's TIES (one call each: nine closed facts by the kernel) AND EACH ROW's TIE, after the 31st guide's Derived/Test/Toyas{Tie, Card}.lean. No idea stands in it: it is a product of the set-up. Laid BY PROGRAM, IN A SANDBOX (cutbox-door.mjs). By AI agents, Wed Nov 11 2026. No macro, syntax, notation, axiom, sorry.
-/
import Derived.Test.YtnbfphjkpicajaaDoorRows
import Derived.LaidByTextLater
import Derived.SevenTiedAt
import Derived.LaidSub
import Derived.LaidOnce
namespace Go.Proofs.YtnbfphjkpicajaaDoor
open Go
set_option maxRecDepth 100000
theorem seatTie1 : Tryd.prog.laidByTextLater [("unicode.White_Space", Rows.laid_unicode_White_Space)] [.listed] true :=
  Program.laidByTextLater_by_one 28 8 22 (by kernel_rfl) (by kernel_rfl) (by kernel_rfl) (by kernel_rfl) (by kernel_rfl) (by kernel_rfl) (fun _ _ => by kernel_rfl)
theorem noOwnUnsafe : Tryd.pinned.checked.prog.headLifts.contains "ownunsafe" = false := by kernel_rfl
theorem tie : Tryd.prog.laidByTextLater [("unicode.White_Space", Rows.laid_unicode_White_Space)] [.listed] true :=
  Program.laidByTextLater.sub seatTie1 ["unicode.White_Space"] (by kernel_rfl) (by kernel_rfl)
theorem fnLtrimExact_row_tie : Rows.fnLtrimExactRow.laidByTextAt .later Tryd.pinned [.listed] true :=
  OpenClaim.laidByTextAt_later rfl rfl tie noOwnUnsafe
theorem fnLtrimIdempotentSuffix_row_tie : Rows.fnLtrimIdempotentSuffixRow.laidByTextAt .later Tryd.pinned [.listed] true :=
  OpenClaim.laidByTextAt_later rfl rfl tie noOwnUnsafe
theorem fnLtrimExactUpto_row_tie : Rows.fnLtrimExactUptoRow.laidByTextAt .later Tryd.pinned [.listed] true :=
  OpenClaim.laidByTextAt_later rfl rfl tie noOwnUnsafe
theorem fnLtrimIdempotentSuffixUpto_row_tie : Rows.fnLtrimIdempotentSuffixUptoRow.laidByTextAt .later Tryd.pinned [.listed] true :=
  OpenClaim.laidByTextAt_later rfl rfl tie noOwnUnsafe
end Go.Proofs.YtnbfphjkpicajaaDoor

/-
  DERIVED. GIVEN WITH THE SEED: THE CARDS: each row of YtebcjlgeppebgaaDoorRows.lean that lists a variable, with what it lists TIED to the program's text (the seventh form; the later family's looks); each row that meets fmt, with fmt's text TOLD by the authors' own Lean function (tested against real Go, not proved from fmt's source: count such statements apart). THE CARD IS WHAT COUNTS. Prove the row's statement (the work); the ties are given (YtebcjlgeppebgaaDoorTie.lean); close each card by the builder's one call (the guide's Derived/Test/ToyasCard.lean, 'card_holds'). Laid BY PROGRAM, IN A SANDBOX (cutbox-door.mjs). By AI agents, Wed Nov 11 2026. No macro, syntax, notation, axiom, sorry.
-/
import Derived.Test.YtebcjlgeppebgaaDoorRows
import GoSem.ClaimSeven
namespace Go.Proofs.YtebcjlgeppebgaaDoor
namespace Rows

/-- THE TIED CARD OF 'n001_84.FnSuffixStringTable'. -/
def fnSuffixStringTableCard : Claim7 := { stood := { row := fnSuffixStringTableRow, standIns := [], harness := (true, "064e6e059171fd2bdc50d1f160533c078bcdaa7b4c4b9ea8b33702f450239c89"), looks := false }, kinds := [], alts := [], laidByText := true, laidKinds := [.data, .pinned], laidTests := true, laidLooks := .later }
def FnSuffixStringTableCardSaid : Prop := Claim7.holds Tryd.pinned (.plain (OpenSpec.ofChange fnSuffixStringTableSpec)) fnSuffixStringTableCard

/-- THE TIED CARD OF 'n001_84.FnArrayStringListModel'. -/
def fnArrayStringListModelCard : Claim7 := { stood := { row := fnArrayStringListModelRow, standIns := [], harness := (true, "064e6e059171fd2bdc50d1f160533c078bcdaa7b4c4b9ea8b33702f450239c89"), looks := false }, kinds := [], alts := [], laidByText := true, laidKinds := [.data, .pinned], laidTests := true, laidLooks := .later }
def FnArrayStringListModelCardSaid : Prop := Claim7.holds Tryd.pinned (.plain (OpenSpec.ofChange fnArrayStringListModelSpec)) fnArrayStringListModelCard

/-- THE TIED CARD OF 'n001_84.FnArrayWriteToAfterPrefix'. -/
def fnArrayWriteToAfterPrefixCard : Claim7 := { stood := { row := fnArrayWriteToAfterPrefixRow, standIns := [], harness := (true, "064e6e059171fd2bdc50d1f160533c078bcdaa7b4c4b9ea8b33702f450239c89"), looks := false }, kinds := [], alts := [], laidByText := true, laidKinds := [.data, .pinned], laidTests := true, laidLooks := .later }
def FnArrayWriteToAfterPrefixCardSaid : Prop := Claim7.holds Tryd.pinned (.plain (OpenSpec.ofChange fnArrayWriteToAfterPrefixSpec)) fnArrayWriteToAfterPrefixCard

/-- THE TIED CARD OF 'n001_84.FnArrayStringNesting'. -/
def fnArrayStringNestingCard : Claim7 := { stood := { row := fnArrayStringNestingRow, standIns := [], harness := (true, "064e6e059171fd2bdc50d1f160533c078bcdaa7b4c4b9ea8b33702f450239c89"), looks := false }, kinds := [], alts := [], laidByText := true, laidKinds := [.data, .pinned], laidTests := true, laidLooks := .later }
def FnArrayStringNestingCardSaid : Prop := Claim7.holds Tryd.pinned (.plain (OpenSpec.ofChange fnArrayStringNestingSpec)) fnArrayStringNestingCard

/-- THE TIED CARD OF 'n001_84.FnSuffixWriteToAfterPrefix'. -/
def fnSuffixWriteToAfterPrefixCard : Claim7 := { stood := { row := fnSuffixWriteToAfterPrefixRow, standIns := [], harness := (true, "064e6e059171fd2bdc50d1f160533c078bcdaa7b4c4b9ea8b33702f450239c89"), looks := false }, kinds := [], alts := [], laidByText := true, laidKinds := [.data, .pinned], laidTests := true, laidLooks := .later }
def FnSuffixWriteToAfterPrefixCardSaid : Prop := Claim7.holds Tryd.pinned (.plain (OpenSpec.ofChange fnSuffixWriteToAfterPrefixSpec)) fnSuffixWriteToAfterPrefixCard

/-- THE TIED CARD OF 'n001_84.FnSuffixWriteToScript'. -/
def fnSuffixWriteToScriptCard : Claim7 := { stood := { row := fnSuffixWriteToScriptRow, standIns := [], harness := (true, "064e6e059171fd2bdc50d1f160533c078bcdaa7b4c4b9ea8b33702f450239c89"), looks := false }, kinds := [], alts := [], laidByText := true, laidKinds := [.data, .pinned], laidTests := true, laidLooks := .later }
def FnSuffixWriteToScriptCardSaid : Prop := Claim7.holds Tryd.pinned (.plain (OpenSpec.ofChange fnSuffixWriteToScriptSpec)) fnSuffixWriteToScriptCard

/-- THE TIED CARD OF 'n001_84.FnArrayWriteToScript'. -/
def fnArrayWriteToScriptCard : Claim7 := { stood := { row := fnArrayWriteToScriptRow, standIns := [], harness := (true, "064e6e059171fd2bdc50d1f160533c078bcdaa7b4c4b9ea8b33702f450239c89"), looks := false }, kinds := [], alts := [], laidByText := true, laidKinds := [.data, .pinned], laidTests := true, laidLooks := .later }
def FnArrayWriteToScriptCardSaid : Prop := Claim7.holds Tryd.pinned (.plain (OpenSpec.ofChange fnArrayWriteToScriptSpec)) fnArrayWriteToScriptCard

/-- THE SECOND FORM's CARD OF 'n001_84.FnSuffixStringTable'. -/
def fnSuffixStringTableUptoCard : Claim7 := { stood := { row := fnSuffixStringTableUptoRow, standIns := [], harness := (true, "064e6e059171fd2bdc50d1f160533c078bcdaa7b4c4b9ea8b33702f450239c89"), looks := false }, kinds := [], alts := [], laidByText := true, laidKinds := [.data, .pinned], laidTests := true, laidLooks := .later }
def FnSuffixStringTableUptoCardSaid : Prop := Claim7.holds Tryd.pinned (.plain (OpenSpec.upto fnSuffixStringTableSpec)) fnSuffixStringTableUptoCard

/-- THE SECOND FORM's CARD OF 'n001_84.FnArrayStringListModel'. -/
def fnArrayStringListModelUptoCard : Claim7 := { stood := { row := fnArrayStringListModelUptoRow, standIns := [], harness := (true, "064e6e059171fd2bdc50d1f160533c078bcdaa7b4c4b9ea8b33702f450239c89"), looks := false }, kinds := [], alts := [], laidByText := true, laidKinds := [.data, .pinned], laidTests := true, laidLooks := .later }
def FnArrayStringListModelUptoCardSaid : Prop := Claim7.holds Tryd.pinned (.plain (OpenSpec.upto fnArrayStringListModelSpec)) fnArrayStringListModelUptoCard

/-- THE SECOND FORM's CARD OF 'n001_84.FnArrayWriteToAfterPrefix'. -/
def fnArrayWriteToAfterPrefixUptoCard : Claim7 := { stood := { row := fnArrayWriteToAfterPrefixUptoRow, standIns := [], harness := (true, "064e6e059171fd2bdc50d1f160533c078bcdaa7b4c4b9ea8b33702f450239c89"), looks := false }, kinds := [], alts := [], laidByText := true, laidKinds := [.data, .pinned], laidTests := true, laidLooks := .later }
def FnArrayWriteToAfterPrefixUptoCardSaid : Prop := Claim7.holds Tryd.pinned (.plain (OpenSpec.upto fnArrayWriteToAfterPrefixSpec)) fnArrayWriteToAfterPrefixUptoCard

/-- THE SECOND FORM's CARD OF 'n001_84.FnArrayStringNesting'. -/
def fnArrayStringNestingUptoCard : Claim7 := { stood := { row := fnArrayStringNestingUptoRow, standIns := [], harness := (true, "064e6e059171fd2bdc50d1f160533c078bcdaa7b4c4b9ea8b33702f450239c89"), looks := false }, kinds := [], alts := [], laidByText := true, laidKinds := [.data, .pinned], laidTests := true, laidLooks := .later }
def FnArrayStringNestingUptoCardSaid : Prop := Claim7.holds Tryd.pinned (.plain (OpenSpec.upto fnArrayStringNestingSpec)) fnArrayStringNestingUptoCard

/-- THE SECOND FORM's CARD OF 'n001_84.FnSuffixWriteToAfterPrefix'. -/
def fnSuffixWriteToAfterPrefixUptoCard : Claim7 := { stood := { row := fnSuffixWriteToAfterPrefixUptoRow, standIns := [], harness := (true, "064e6e059171fd2bdc50d1f160533c078bcdaa7b4c4b9ea8b33702f450239c89"), looks := false }, kinds := [], alts := [], laidByText := true, laidKinds := [.data, .pinned], laidTests := true, laidLooks := .later }
def FnSuffixWriteToAfterPrefixUptoCardSaid : Prop := Claim7.holds Tryd.pinned (.plain (OpenSpec.upto fnSuffixWriteToAfterPrefixSpec)) fnSuffixWriteToAfterPrefixUptoCard

/-- THE SECOND FORM's CARD OF 'n001_84.FnSuffixWriteToScript'. -/
def fnSuffixWriteToScriptUptoCard : Claim7 := { stood := { row := fnSuffixWriteToScriptUptoRow, standIns := [], harness := (true, "064e6e059171fd2bdc50d1f160533c078bcdaa7b4c4b9ea8b33702f450239c89"), looks := false }, kinds := [], alts := [], laidByText := true, laidKinds := [.data, .pinned], laidTests := true, laidLooks := .later }
def FnSuffixWriteToScriptUptoCardSaid : Prop := Claim7.holds Tryd.pinned (.plain (OpenSpec.upto fnSuffixWriteToScriptSpec)) fnSuffixWriteToScriptUptoCard

/-- THE SECOND FORM's CARD OF 'n001_84.FnArrayWriteToScript'. -/
def fnArrayWriteToScriptUptoCard : Claim7 := { stood := { row := fnArrayWriteToScriptUptoRow, standIns := [], harness := (true, "064e6e059171fd2bdc50d1f160533c078bcdaa7b4c4b9ea8b33702f450239c89"), looks := false }, kinds := [], alts := [], laidByText := true, laidKinds := [.data, .pinned], laidTests := true, laidLooks := .later }
def FnArrayWriteToScriptUptoCardSaid : Prop := Claim7.holds Tryd.pinned (.plain (OpenSpec.upto fnArrayWriteToScriptSpec)) fnArrayWriteToScriptUptoCard
end Rows
end Go.Proofs.YtebcjlgeppebgaaDoor

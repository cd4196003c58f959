/-
  NARROWER THAN 'FOR EVERY INPUT', by the rows' own cells (each row's printed sentence says how): FnSuffixStringTable: laid · FnArrayStringListModel: laid · FnArrayWriteToAfterPrefix: laid · FnArrayStringNesting: laid · FnSuffixWriteToAfterPrefix: laid · FnSuffixWriteToScript: laid · FnArrayWriteToScript: laid.
  DERIVED. THE GIVEN ROWS OF THIS SEAT. 7 by the template 'for every input the law returns true; each argument reads behind the call as it read before'; 0 by the template 'total and deterministic' (their statements: YtebcjlgeppebgaaDoorTotals.lean).
  GIVEN WITH THE SEED: the statements are not yours to turn. If you find one false, say at which input.
  Laid BY PROGRAM, IN A SANDBOX (cutbox-rows.mjs): the forced cells as the released guide's own fill.sh prints them over the translation 7d11b034a58ad429… (all of the seat's roots in one cut). By AI agents, Wed Nov 11 2026. No macro, syntax, notation, axiom, sorry.
-/
import Derived.Test.YtebcjlgeppebgaaDoorChecked
import GoSem.PinnedTables
import GoSem.Claim
import GoSem.ClaimJoined
import GoSem.ClaimMapViews
import Derived.JoinedTies
import Derived.KernelRfl
namespace Go.Proofs.YtebcjlgeppebgaaDoor
/- THE CELL 'sum', in the pinned program and in every row, IS THE sha256 OF THE DUMP (.gsa) THAT YtebcjlgeppebgaaDoorProg.lean LOADS. Nothing in Lean hashes anything: it is a label: what it is worth is what the hold of that sum in a sandbox is worth. -/
noncomputable def Tryd.pinned : Pinned := { name := "ytebcjlgeppebgaadoor", sum := "7d11b034a58ad42940c993b0ff4a89e513b6fad35d77abecb5b13501e78406a8", checked := Tryd.checked }
namespace Rows
def none {H : Type} : Left H := { results := [], args := [] }

/- WHAT THE LISTED PACKAGE-LEVEL VARIABLES READ AS WHEN THE CALL BEGINS. Each datum BY PROGRAM (the guide's laid-datum.mjs) off the statement by which the dump's own 'gosem.cut.vars' lays the variable. In a bare row this is a premise. The card (YtebcjlgeppebgaaDoorCards.lean) ties it to the program's text. -/
def laid_unicode_utf8_acceptRanges {H : Type} : DataW H := .agg [.agg [.lit (.int .u8 128), .lit (.int .u8 191)], .agg [.lit (.int .u8 160), .lit (.int .u8 191)], .agg [.lit (.int .u8 128), .lit (.int .u8 159)], .agg [.lit (.int .u8 144), .lit (.int .u8 191)], .agg [.lit (.int .u8 128), .lit (.int .u8 143)], .agg [.lit (.int .u8 0), .lit (.int .u8 0)], .agg [.lit (.int .u8 0), .lit (.int .u8 0)], .agg [.lit (.int .u8 0), .lit (.int .u8 0)], .agg [.lit (.int .u8 0), .lit (.int .u8 0)], .agg [.lit (.int .u8 0), .lit (.int .u8 0)], .agg [.lit (.int .u8 0), .lit (.int .u8 0)], .agg [.lit (.int .u8 0), .lit (.int .u8 0)], .agg [.lit (.int .u8 0), .lit (.int .u8 0)], .agg [.lit (.int .u8 0), .lit (.int .u8 0)], .agg [.lit (.int .u8 0), .lit (.int .u8 0)], .agg [.lit (.int .u8 0), .lit (.int .u8 0)]]
/-- One of Go's own tables, pinned by name: the form's constant. -/
def laid_unicode_utf8_first : DataW Unit := Go.Pinned.utf8First

/-- 'n001_84.FnSuffixStringTable': WHATEVER THE INPUT: true; the input reads as it did. -/
def fnSuffixStringTableSpec : ChangeSpec := { name := "fnSuffixStringTable", fn := fun _ => fun
  | [d] => { results := [.lit (.bool true)], args := [d] }
  | _ => none }
def fnSuffixStringTableRow : OpenClaim := { program := "ytebcjlgeppebgaadoor", sum := "7d11b034a58ad42940c993b0ff4a89e513b6fad35d77abecb5b13501e78406a8", func := "github.com/itchyny/gojq/n001_84.FnSuffixStringTable", spec := "fnSuffixStringTable", inPlace := ["internal/abi.NoEscape"], unfollowed := true, recurses := true, named := ["unicode/utf8.first", "unicode/utf8.acceptRanges"], apart := false, laid := [("unicode/utf8.acceptRanges", laid_unicode_utf8_acceptRanges), ("unicode/utf8.first", laid_unicode_utf8_first)] }
def FnSuffixStringTableSaid : Prop := fnSuffixStringTableRow.holds Tryd.pinned (OpenSpec.ofChange fnSuffixStringTableSpec)

/-- ITS FALSE NEIGHBOUR: 'it returns false'. Refute it at one input. -/
def fnSuffixStringTableWrong : ChangeSpec := { name := "fnSuffixStringTable", fn := fun _ => fun
  | [d] => { results := [.lit (.bool false)], args := [d] }
  | _ => none }
def FnSuffixStringTableWrongFalsely : Prop := fnSuffixStringTableRow.holds Tryd.pinned (OpenSpec.ofChange fnSuffixStringTableWrong)

/-- 'n001_84.FnArrayStringListModel': WHATEVER THE INPUT: true; the input reads as it did. -/
def fnArrayStringListModelSpec : ChangeSpec := { name := "fnArrayStringListModel", fn := fun _ => fun
  | [d1, d2] => { results := [.lit (.bool true)], args := [d1, d2] }
  | _ => none }
def fnArrayStringListModelRow : OpenClaim := { program := "ytebcjlgeppebgaadoor", sum := "7d11b034a58ad42940c993b0ff4a89e513b6fad35d77abecb5b13501e78406a8", func := "github.com/itchyny/gojq/n001_84.FnArrayStringListModel", spec := "fnArrayStringListModel", inPlace := ["internal/abi.NoEscape"], unfollowed := true, recurses := true, named := ["unicode/utf8.first", "unicode/utf8.acceptRanges"], apart := false, laid := [("unicode/utf8.acceptRanges", laid_unicode_utf8_acceptRanges), ("unicode/utf8.first", laid_unicode_utf8_first)] }
def FnArrayStringListModelSaid : Prop := fnArrayStringListModelRow.holds Tryd.pinned (OpenSpec.ofChange fnArrayStringListModelSpec)

/-- ITS FALSE NEIGHBOUR: 'it returns false'. Refute it at one input. -/
def fnArrayStringListModelWrong : ChangeSpec := { name := "fnArrayStringListModel", fn := fun _ => fun
  | [d1, d2] => { results := [.lit (.bool false)], args := [d1, d2] }
  | _ => none }
def FnArrayStringListModelWrongFalsely : Prop := fnArrayStringListModelRow.holds Tryd.pinned (OpenSpec.ofChange fnArrayStringListModelWrong)

/-- 'n001_84.FnArrayWriteToAfterPrefix': WHATEVER THE INPUT: true; the input reads as it did. -/
def fnArrayWriteToAfterPrefixSpec : ChangeSpec := { name := "fnArrayWriteToAfterPrefix", fn := fun _ => fun
  | [d1, d2, d3] => { results := [.lit (.bool true)], args := [d1, d2, d3] }
  | _ => none }
def fnArrayWriteToAfterPrefixRow : OpenClaim := { program := "ytebcjlgeppebgaadoor", sum := "7d11b034a58ad42940c993b0ff4a89e513b6fad35d77abecb5b13501e78406a8", func := "github.com/itchyny/gojq/n001_84.FnArrayWriteToAfterPrefix", spec := "fnArrayWriteToAfterPrefix", inPlace := ["internal/abi.NoEscape"], unfollowed := true, recurses := true, named := ["unicode/utf8.first", "unicode/utf8.acceptRanges"], apart := false, laid := [("unicode/utf8.acceptRanges", laid_unicode_utf8_acceptRanges), ("unicode/utf8.first", laid_unicode_utf8_first)] }
def FnArrayWriteToAfterPrefixSaid : Prop := fnArrayWriteToAfterPrefixRow.holds Tryd.pinned (OpenSpec.ofChange fnArrayWriteToAfterPrefixSpec)

/-- ITS FALSE NEIGHBOUR: 'it returns false'. Refute it at one input. -/
def fnArrayWriteToAfterPrefixWrong : ChangeSpec := { name := "fnArrayWriteToAfterPrefix", fn := fun _ => fun
  | [d1, d2, d3] => { results := [.lit (.bool false)], args := [d1, d2, d3] }
  | _ => none }
def FnArrayWriteToAfterPrefixWrongFalsely : Prop := fnArrayWriteToAfterPrefixRow.holds Tryd.pinned (OpenSpec.ofChange fnArrayWriteToAfterPrefixWrong)

/-- 'n001_84.FnArrayStringNesting': WHATEVER THE INPUT: true; the input reads as it did. -/
def fnArrayStringNestingSpec : ChangeSpec := { name := "fnArrayStringNesting", fn := fun _ => fun
  | [d1, d2] => { results := [.lit (.bool true)], args := [d1, d2] }
  | _ => none }
def fnArrayStringNestingRow : OpenClaim := { program := "ytebcjlgeppebgaadoor", sum := "7d11b034a58ad42940c993b0ff4a89e513b6fad35d77abecb5b13501e78406a8", func := "github.com/itchyny/gojq/n001_84.FnArrayStringNesting", spec := "fnArrayStringNesting", inPlace := ["internal/abi.NoEscape"], unfollowed := true, recurses := true, named := ["unicode/utf8.first", "unicode/utf8.acceptRanges"], apart := false, laid := [("unicode/utf8.acceptRanges", laid_unicode_utf8_acceptRanges), ("unicode/utf8.first", laid_unicode_utf8_first)] }
def FnArrayStringNestingSaid : Prop := fnArrayStringNestingRow.holds Tryd.pinned (OpenSpec.ofChange fnArrayStringNestingSpec)

/-- ITS FALSE NEIGHBOUR: 'it returns false'. Refute it at one input. -/
def fnArrayStringNestingWrong : ChangeSpec := { name := "fnArrayStringNesting", fn := fun _ => fun
  | [d1, d2] => { results := [.lit (.bool false)], args := [d1, d2] }
  | _ => none }
def FnArrayStringNestingWrongFalsely : Prop := fnArrayStringNestingRow.holds Tryd.pinned (OpenSpec.ofChange fnArrayStringNestingWrong)

/-- 'n001_84.FnSuffixWriteToAfterPrefix': WHATEVER THE INPUT: true; the input reads as it did. -/
def fnSuffixWriteToAfterPrefixSpec : ChangeSpec := { name := "fnSuffixWriteToAfterPrefix", fn := fun _ => fun
  | [d1, d2] => { results := [.lit (.bool true)], args := [d1, d2] }
  | _ => none }
def fnSuffixWriteToAfterPrefixRow : OpenClaim := { program := "ytebcjlgeppebgaadoor", sum := "7d11b034a58ad42940c993b0ff4a89e513b6fad35d77abecb5b13501e78406a8", func := "github.com/itchyny/gojq/n001_84.FnSuffixWriteToAfterPrefix", spec := "fnSuffixWriteToAfterPrefix", inPlace := ["internal/abi.NoEscape"], unfollowed := true, recurses := true, named := ["unicode/utf8.first", "unicode/utf8.acceptRanges"], apart := false, laid := [("unicode/utf8.acceptRanges", laid_unicode_utf8_acceptRanges), ("unicode/utf8.first", laid_unicode_utf8_first)] }
def FnSuffixWriteToAfterPrefixSaid : Prop := fnSuffixWriteToAfterPrefixRow.holds Tryd.pinned (OpenSpec.ofChange fnSuffixWriteToAfterPrefixSpec)

/-- ITS FALSE NEIGHBOUR: 'it returns false'. Refute it at one input. -/
def fnSuffixWriteToAfterPrefixWrong : ChangeSpec := { name := "fnSuffixWriteToAfterPrefix", fn := fun _ => fun
  | [d1, d2] => { results := [.lit (.bool false)], args := [d1, d2] }
  | _ => none }
def FnSuffixWriteToAfterPrefixWrongFalsely : Prop := fnSuffixWriteToAfterPrefixRow.holds Tryd.pinned (OpenSpec.ofChange fnSuffixWriteToAfterPrefixWrong)

/-- 'n001_84.FnSuffixWriteToScript': WHATEVER THE INPUT: true; the input reads as it did. -/
def fnSuffixWriteToScriptSpec : ChangeSpec := { name := "fnSuffixWriteToScript", fn := fun _ => fun
  | [d1, d2] => { results := [.lit (.bool true)], args := [d1, d2] }
  | _ => none }
def fnSuffixWriteToScriptRow : OpenClaim := { program := "ytebcjlgeppebgaadoor", sum := "7d11b034a58ad42940c993b0ff4a89e513b6fad35d77abecb5b13501e78406a8", func := "github.com/itchyny/gojq/n001_84.FnSuffixWriteToScript", spec := "fnSuffixWriteToScript", inPlace := ["internal/abi.NoEscape"], unfollowed := true, recurses := true, named := ["unicode/utf8.first", "unicode/utf8.acceptRanges"], apart := false, laid := [("unicode/utf8.acceptRanges", laid_unicode_utf8_acceptRanges), ("unicode/utf8.first", laid_unicode_utf8_first)] }
def FnSuffixWriteToScriptSaid : Prop := fnSuffixWriteToScriptRow.holds Tryd.pinned (OpenSpec.ofChange fnSuffixWriteToScriptSpec)

/-- ITS FALSE NEIGHBOUR: 'it returns false'. Refute it at one input. -/
def fnSuffixWriteToScriptWrong : ChangeSpec := { name := "fnSuffixWriteToScript", fn := fun _ => fun
  | [d1, d2] => { results := [.lit (.bool false)], args := [d1, d2] }
  | _ => none }
def FnSuffixWriteToScriptWrongFalsely : Prop := fnSuffixWriteToScriptRow.holds Tryd.pinned (OpenSpec.ofChange fnSuffixWriteToScriptWrong)

/-- 'n001_84.FnArrayWriteToScript': WHATEVER THE INPUT: true; the input reads as it did. -/
def fnArrayWriteToScriptSpec : ChangeSpec := { name := "fnArrayWriteToScript", fn := fun _ => fun
  | [d1, d2] => { results := [.lit (.bool true)], args := [d1, d2] }
  | _ => none }
def fnArrayWriteToScriptRow : OpenClaim := { program := "ytebcjlgeppebgaadoor", sum := "7d11b034a58ad42940c993b0ff4a89e513b6fad35d77abecb5b13501e78406a8", func := "github.com/itchyny/gojq/n001_84.FnArrayWriteToScript", spec := "fnArrayWriteToScript", inPlace := ["internal/abi.NoEscape"], unfollowed := true, recurses := true, named := ["unicode/utf8.first", "unicode/utf8.acceptRanges"], apart := false, laid := [("unicode/utf8.acceptRanges", laid_unicode_utf8_acceptRanges), ("unicode/utf8.first", laid_unicode_utf8_first)] }
def FnArrayWriteToScriptSaid : Prop := fnArrayWriteToScriptRow.holds Tryd.pinned (OpenSpec.ofChange fnArrayWriteToScriptSpec)

/-- ITS FALSE NEIGHBOUR: 'it returns false'. Refute it at one input. -/
def fnArrayWriteToScriptWrong : ChangeSpec := { name := "fnArrayWriteToScript", fn := fun _ => fun
  | [d1, d2] => { results := [.lit (.bool false)], args := [d1, d2] }
  | _ => none }
def FnArrayWriteToScriptWrongFalsely : Prop := fnArrayWriteToScriptRow.holds Tryd.pinned (OpenSpec.ofChange fnArrayWriteToScriptWrong)

/- THE SECOND FORM. 'bulk': how many values and letters a reading holds, each counted each time it is reached (what is shared counts as often as it is met; a slice's spare places count too). A statement '..UptoSaid' is the law's where the arguments, and the package variables that the reading takes, are together of bulk at most 1048576: NARROWER than '..Said'. Prove '..Said' where nothing that the law and all that it calls make is longer than what came in: it says more and counts as full. Else prove '..UptoSaid'. A law counts once. -/
mutual
def uptoBulk {H : Type} : DataW H → Nat
  | .lit (.string bytes) => bytes.length + 1
  | .lit _ => 1
  | .nil => 1
  | .ptr d => uptoBulk d + 1
  | .slice elems spare => uptoBulkAll elems + uptoBulkAll spare + 1
  | .agg parts => uptoBulkAll parts + 1
  | .iface _ d => uptoBulk d + 1
  | .map entries => uptoBulkEntries entries + 1
  | .held _ => 1
def uptoBulkAll {H : Type} : List (DataW H) → Nat
  | [] => 0
  | d :: r => uptoBulk d + uptoBulkAll r
def uptoBulkEntries {H : Type} : List (Lit × DataW H) → Nat
  | [] => 0
  | x :: r => uptoBulkEntry x + uptoBulkEntries r
def uptoBulkEntry {H : Type} : Lit × DataW H → Nat
  | (.string bytes, d) => bytes.length + uptoBulk d + 1
  | (_, d) => uptoBulk d + 1
 end
def uptoSmall : (H : Type) → List (DataW H) → Bool := fun _ ds => decide (uptoBulkAll ds ≤ 1048576)
def OpenSpec.upto (s : _root_.Go.ChangeSpec) : _root_.Go.OpenSpec := { _root_.Go.OpenSpec.ofChange s with cond := some uptoSmall }

/-- 'n001_84.FnSuffixStringTable', WHERE WHAT IT READS IS OF BULK AT MOST 1048576: true; the input reads as it did. -/
def fnSuffixStringTableUptoRow : OpenClaim := { program := "ytebcjlgeppebgaadoor", sum := "7d11b034a58ad42940c993b0ff4a89e513b6fad35d77abecb5b13501e78406a8", func := "github.com/itchyny/gojq/n001_84.FnSuffixStringTable", spec := "fnSuffixStringTable", inPlace := ["internal/abi.NoEscape"], unfollowed := true, recurses := true, named := ["unicode/utf8.first", "unicode/utf8.acceptRanges"], apart := false, laid := [("unicode/utf8.acceptRanges", laid_unicode_utf8_acceptRanges), ("unicode/utf8.first", laid_unicode_utf8_first)], narrowed := true }
def FnSuffixStringTableUptoSaid : Prop := fnSuffixStringTableUptoRow.holds Tryd.pinned (OpenSpec.upto fnSuffixStringTableSpec)

/-- 'n001_84.FnArrayStringListModel', WHERE WHAT IT READS IS OF BULK AT MOST 1048576: true; the input reads as it did. -/
def fnArrayStringListModelUptoRow : OpenClaim := { program := "ytebcjlgeppebgaadoor", sum := "7d11b034a58ad42940c993b0ff4a89e513b6fad35d77abecb5b13501e78406a8", func := "github.com/itchyny/gojq/n001_84.FnArrayStringListModel", spec := "fnArrayStringListModel", inPlace := ["internal/abi.NoEscape"], unfollowed := true, recurses := true, named := ["unicode/utf8.first", "unicode/utf8.acceptRanges"], apart := false, laid := [("unicode/utf8.acceptRanges", laid_unicode_utf8_acceptRanges), ("unicode/utf8.first", laid_unicode_utf8_first)], narrowed := true }
def FnArrayStringListModelUptoSaid : Prop := fnArrayStringListModelUptoRow.holds Tryd.pinned (OpenSpec.upto fnArrayStringListModelSpec)

/-- 'n001_84.FnArrayWriteToAfterPrefix', WHERE WHAT IT READS IS OF BULK AT MOST 1048576: true; the input reads as it did. -/
def fnArrayWriteToAfterPrefixUptoRow : OpenClaim := { program := "ytebcjlgeppebgaadoor", sum := "7d11b034a58ad42940c993b0ff4a89e513b6fad35d77abecb5b13501e78406a8", func := "github.com/itchyny/gojq/n001_84.FnArrayWriteToAfterPrefix", spec := "fnArrayWriteToAfterPrefix", inPlace := ["internal/abi.NoEscape"], unfollowed := true, recurses := true, named := ["unicode/utf8.first", "unicode/utf8.acceptRanges"], apart := false, laid := [("unicode/utf8.acceptRanges", laid_unicode_utf8_acceptRanges), ("unicode/utf8.first", laid_unicode_utf8_first)], narrowed := true }
def FnArrayWriteToAfterPrefixUptoSaid : Prop := fnArrayWriteToAfterPrefixUptoRow.holds Tryd.pinned (OpenSpec.upto fnArrayWriteToAfterPrefixSpec)

/-- 'n001_84.FnArrayStringNesting', WHERE WHAT IT READS IS OF BULK AT MOST 1048576: true; the input reads as it did. -/
def fnArrayStringNestingUptoRow : OpenClaim := { program := "ytebcjlgeppebgaadoor", sum := "7d11b034a58ad42940c993b0ff4a89e513b6fad35d77abecb5b13501e78406a8", func := "github.com/itchyny/gojq/n001_84.FnArrayStringNesting", spec := "fnArrayStringNesting", inPlace := ["internal/abi.NoEscape"], unfollowed := true, recurses := true, named := ["unicode/utf8.first", "unicode/utf8.acceptRanges"], apart := false, laid := [("unicode/utf8.acceptRanges", laid_unicode_utf8_acceptRanges), ("unicode/utf8.first", laid_unicode_utf8_first)], narrowed := true }
def FnArrayStringNestingUptoSaid : Prop := fnArrayStringNestingUptoRow.holds Tryd.pinned (OpenSpec.upto fnArrayStringNestingSpec)

/-- 'n001_84.FnSuffixWriteToAfterPrefix', WHERE WHAT IT READS IS OF BULK AT MOST 1048576: true; the input reads as it did. -/
def fnSuffixWriteToAfterPrefixUptoRow : OpenClaim := { program := "ytebcjlgeppebgaadoor", sum := "7d11b034a58ad42940c993b0ff4a89e513b6fad35d77abecb5b13501e78406a8", func := "github.com/itchyny/gojq/n001_84.FnSuffixWriteToAfterPrefix", spec := "fnSuffixWriteToAfterPrefix", inPlace := ["internal/abi.NoEscape"], unfollowed := true, recurses := true, named := ["unicode/utf8.first", "unicode/utf8.acceptRanges"], apart := false, laid := [("unicode/utf8.acceptRanges", laid_unicode_utf8_acceptRanges), ("unicode/utf8.first", laid_unicode_utf8_first)], narrowed := true }
def FnSuffixWriteToAfterPrefixUptoSaid : Prop := fnSuffixWriteToAfterPrefixUptoRow.holds Tryd.pinned (OpenSpec.upto fnSuffixWriteToAfterPrefixSpec)

/-- 'n001_84.FnSuffixWriteToScript', WHERE WHAT IT READS IS OF BULK AT MOST 1048576: true; the input reads as it did. -/
def fnSuffixWriteToScriptUptoRow : OpenClaim := { program := "ytebcjlgeppebgaadoor", sum := "7d11b034a58ad42940c993b0ff4a89e513b6fad35d77abecb5b13501e78406a8", func := "github.com/itchyny/gojq/n001_84.FnSuffixWriteToScript", spec := "fnSuffixWriteToScript", inPlace := ["internal/abi.NoEscape"], unfollowed := true, recurses := true, named := ["unicode/utf8.first", "unicode/utf8.acceptRanges"], apart := false, laid := [("unicode/utf8.acceptRanges", laid_unicode_utf8_acceptRanges), ("unicode/utf8.first", laid_unicode_utf8_first)], narrowed := true }
def FnSuffixWriteToScriptUptoSaid : Prop := fnSuffixWriteToScriptUptoRow.holds Tryd.pinned (OpenSpec.upto fnSuffixWriteToScriptSpec)

/-- 'n001_84.FnArrayWriteToScript', WHERE WHAT IT READS IS OF BULK AT MOST 1048576: true; the input reads as it did. -/
def fnArrayWriteToScriptUptoRow : OpenClaim := { program := "ytebcjlgeppebgaadoor", sum := "7d11b034a58ad42940c993b0ff4a89e513b6fad35d77abecb5b13501e78406a8", func := "github.com/itchyny/gojq/n001_84.FnArrayWriteToScript", spec := "fnArrayWriteToScript", inPlace := ["internal/abi.NoEscape"], unfollowed := true, recurses := true, named := ["unicode/utf8.first", "unicode/utf8.acceptRanges"], apart := false, laid := [("unicode/utf8.acceptRanges", laid_unicode_utf8_acceptRanges), ("unicode/utf8.first", laid_unicode_utf8_first)], narrowed := true }
def FnArrayWriteToScriptUptoSaid : Prop := fnArrayWriteToScriptUptoRow.holds Tryd.pinned (OpenSpec.upto fnArrayWriteToScriptSpec)

end Rows
end Go.Proofs.YtebcjlgeppebgaaDoor

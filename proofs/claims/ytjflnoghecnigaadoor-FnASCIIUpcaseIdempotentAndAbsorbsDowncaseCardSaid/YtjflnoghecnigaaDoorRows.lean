/-
  NARROWER THAN 'FOR EVERY INPUT', by the rows' own cells (each row's printed sentence says how): FnASCIIUpcaseMatchesByteModel: laid · FnASCIIUpcaseIdempotentAndAbsorbsDowncase: laid.
  DERIVED. THE GIVEN ROWS OF THIS SEAT. 2 by the template 'for every input the law returns true; each argument reads behind the call as it read before'; 0 by the template 'total and deterministic' (their statements: YtjflnoghecnigaaDoorTotals.lean).
  GIVEN WITH THE SEED: the statements are not yours to turn. If you find one false, say at which input.
  Laid BY PROGRAM, IN A SANDBOX (cutbox-rows.mjs): the forced cells as the released guide's own fill.sh prints them over the translation f41dd4474912f718… (all of the seat's roots in one cut). By AI agents, Wed Nov 11 2026. No macro, syntax, notation, axiom, sorry.
-/
import Derived.Test.YtjflnoghecnigaaDoorChecked
import GoSem.PinnedTables
import GoSem.Claim
import GoSem.ClaimJoined
import GoSem.ClaimMapViews
import Derived.JoinedTies
import Derived.KernelRfl
namespace Go.Proofs.YtjflnoghecnigaaDoor
/- THE CELL 'sum', in the pinned program and in every row, IS THE sha256 OF THE DUMP (.gsa) THAT YtjflnoghecnigaaDoorProg.lean LOADS. Nothing in Lean hashes anything: it is a label: what it is worth is what the hold of that sum in a sandbox is worth. -/
noncomputable def Tryd.pinned : Pinned := { name := "ytjflnoghecnigaadoor", sum := "f41dd4474912f71840b9d028911bfcf03be956d15c61556c2db3ae765b1d69ae", checked := Tryd.checked }
namespace Rows
def none {H : Type} : Left H := { results := [], args := [] }

/- WHAT THE LISTED PACKAGE-LEVEL VARIABLES READ AS WHEN THE CALL BEGINS. Each datum BY PROGRAM (the guide's laid-datum.mjs) off the statement by which the dump's own 'gosem.cut.vars' lays the variable. In a bare row this is a premise. The card (YtjflnoghecnigaaDoorCards.lean) ties it to the program's text. -/
def laid_unicode_utf8_acceptRanges {H : Type} : DataW H := .agg [.agg [.lit (.int .u8 128), .lit (.int .u8 191)], .agg [.lit (.int .u8 160), .lit (.int .u8 191)], .agg [.lit (.int .u8 128), .lit (.int .u8 159)], .agg [.lit (.int .u8 144), .lit (.int .u8 191)], .agg [.lit (.int .u8 128), .lit (.int .u8 143)], .agg [.lit (.int .u8 0), .lit (.int .u8 0)], .agg [.lit (.int .u8 0), .lit (.int .u8 0)], .agg [.lit (.int .u8 0), .lit (.int .u8 0)], .agg [.lit (.int .u8 0), .lit (.int .u8 0)], .agg [.lit (.int .u8 0), .lit (.int .u8 0)], .agg [.lit (.int .u8 0), .lit (.int .u8 0)], .agg [.lit (.int .u8 0), .lit (.int .u8 0)], .agg [.lit (.int .u8 0), .lit (.int .u8 0)], .agg [.lit (.int .u8 0), .lit (.int .u8 0)], .agg [.lit (.int .u8 0), .lit (.int .u8 0)], .agg [.lit (.int .u8 0), .lit (.int .u8 0)]]
/-- One of Go's own tables, pinned by name: the form's constant. -/
def laid_unicode_utf8_first : DataW Unit := Go.Pinned.utf8First

/-- 'n001_98.FnASCIIUpcaseMatchesByteModel': WHATEVER THE INPUT: true; the input reads as it did. -/
def fnASCIIUpcaseMatchesByteModelSpec : ChangeSpec := { name := "fnASCIIUpcaseMatchesByteModel", fn := fun _ => fun
  | [d] => { results := [.lit (.bool true)], args := [d] }
  | _ => none }
def fnASCIIUpcaseMatchesByteModelRow : OpenClaim := { program := "ytjflnoghecnigaadoor", sum := "f41dd4474912f71840b9d028911bfcf03be956d15c61556c2db3ae765b1d69ae", func := "github.com/itchyny/gojq/n001_98.FnASCIIUpcaseMatchesByteModel", spec := "fnASCIIUpcaseMatchesByteModel", inPlace := ["internal/abi.NoEscape", "internal/bytealg.MakeNoZero"], unfollowed := true, recurses := true, named := ["unicode/utf8.first", "unicode/utf8.acceptRanges"], apart := false, laid := [("unicode/utf8.acceptRanges", laid_unicode_utf8_acceptRanges), ("unicode/utf8.first", laid_unicode_utf8_first)] }
def FnASCIIUpcaseMatchesByteModelSaid : Prop := fnASCIIUpcaseMatchesByteModelRow.holds Tryd.pinned (OpenSpec.ofChange fnASCIIUpcaseMatchesByteModelSpec)

/-- ITS FALSE NEIGHBOUR: 'it returns false'. Refute it at one input. -/
def fnASCIIUpcaseMatchesByteModelWrong : ChangeSpec := { name := "fnASCIIUpcaseMatchesByteModel", fn := fun _ => fun
  | [d] => { results := [.lit (.bool false)], args := [d] }
  | _ => none }
def FnASCIIUpcaseMatchesByteModelWrongFalsely : Prop := fnASCIIUpcaseMatchesByteModelRow.holds Tryd.pinned (OpenSpec.ofChange fnASCIIUpcaseMatchesByteModelWrong)

/-- 'n001_98.FnASCIIUpcaseIdempotentAndAbsorbsDowncase': WHATEVER THE INPUT: true; the input reads as it did. -/
def fnASCIIUpcaseIdempotentAndAbsorbsDowncaseSpec : ChangeSpec := { name := "fnASCIIUpcaseIdempotentAndAbsorbsDowncase", fn := fun _ => fun
  | [d] => { results := [.lit (.bool true)], args := [d] }
  | _ => none }
def fnASCIIUpcaseIdempotentAndAbsorbsDowncaseRow : OpenClaim := { program := "ytjflnoghecnigaadoor", sum := "f41dd4474912f71840b9d028911bfcf03be956d15c61556c2db3ae765b1d69ae", func := "github.com/itchyny/gojq/n001_98.FnASCIIUpcaseIdempotentAndAbsorbsDowncase", spec := "fnASCIIUpcaseIdempotentAndAbsorbsDowncase", inPlace := ["internal/abi.NoEscape", "internal/bytealg.MakeNoZero"], unfollowed := true, recurses := true, named := ["unicode/utf8.first", "unicode/utf8.acceptRanges"], apart := false, laid := [("unicode/utf8.acceptRanges", laid_unicode_utf8_acceptRanges), ("unicode/utf8.first", laid_unicode_utf8_first)] }
def FnASCIIUpcaseIdempotentAndAbsorbsDowncaseSaid : Prop := fnASCIIUpcaseIdempotentAndAbsorbsDowncaseRow.holds Tryd.pinned (OpenSpec.ofChange fnASCIIUpcaseIdempotentAndAbsorbsDowncaseSpec)

/-- ITS FALSE NEIGHBOUR: 'it returns false'. Refute it at one input. -/
def fnASCIIUpcaseIdempotentAndAbsorbsDowncaseWrong : ChangeSpec := { name := "fnASCIIUpcaseIdempotentAndAbsorbsDowncase", fn := fun _ => fun
  | [d] => { results := [.lit (.bool false)], args := [d] }
  | _ => none }
def FnASCIIUpcaseIdempotentAndAbsorbsDowncaseWrongFalsely : Prop := fnASCIIUpcaseIdempotentAndAbsorbsDowncaseRow.holds Tryd.pinned (OpenSpec.ofChange fnASCIIUpcaseIdempotentAndAbsorbsDowncaseWrong)

/- THE SECOND FORM. 'bulk': how many values and letters a reading holds, each counted each time it is reached (what is shared counts as often as it is met; a slice's spare places count too). A statement '..UptoSaid' is the law's where the arguments, and the package variables that the reading takes, are together of bulk at most 1048576: NARROWER than '..Said'. Prove '..Said' where nothing that the law and all that it calls make is longer than what came in: it says more and counts as full. Else prove '..UptoSaid'. A law counts once. -/
mutual
def uptoBulk {H : Type} : DataW H → Nat
  | .lit (.string bytes) => bytes.length + 1
  | .lit _ => 1
  | .nil => 1
  | .ptr d => uptoBulk d + 1
  | .slice elems spare => uptoBulkAll elems + uptoBulkAll spare + 1
  | .agg parts => uptoBulkAll parts + 1
  | .iface _ d => uptoBulk d + 1
  | .map entries => uptoBulkEntries entries + 1
  | .held _ => 1
def uptoBulkAll {H : Type} : List (DataW H) → Nat
  | [] => 0
  | d :: r => uptoBulk d + uptoBulkAll r
def uptoBulkEntries {H : Type} : List (Lit × DataW H) → Nat
  | [] => 0
  | x :: r => uptoBulkEntry x + uptoBulkEntries r
def uptoBulkEntry {H : Type} : Lit × DataW H → Nat
  | (.string bytes, d) => bytes.length + uptoBulk d + 1
  | (_, d) => uptoBulk d + 1
 end
def uptoSmall : (H : Type) → List (DataW H) → Bool := fun _ ds => decide (uptoBulkAll ds ≤ 1048576)
def OpenSpec.upto (s : _root_.Go.ChangeSpec) : _root_.Go.OpenSpec := { _root_.Go.OpenSpec.ofChange s with cond := some uptoSmall }

/-- 'n001_98.FnASCIIUpcaseMatchesByteModel', WHERE WHAT IT READS IS OF BULK AT MOST 1048576: true; the input reads as it did. -/
def fnASCIIUpcaseMatchesByteModelUptoRow : OpenClaim := { program := "ytjflnoghecnigaadoor", sum := "f41dd4474912f71840b9d028911bfcf03be956d15c61556c2db3ae765b1d69ae", func := "github.com/itchyny/gojq/n001_98.FnASCIIUpcaseMatchesByteModel", spec := "fnASCIIUpcaseMatchesByteModel", inPlace := ["internal/abi.NoEscape", "internal/bytealg.MakeNoZero"], unfollowed := true, recurses := true, named := ["unicode/utf8.first", "unicode/utf8.acceptRanges"], apart := false, laid := [("unicode/utf8.acceptRanges", laid_unicode_utf8_acceptRanges), ("unicode/utf8.first", laid_unicode_utf8_first)], narrowed := true }
def FnASCIIUpcaseMatchesByteModelUptoSaid : Prop := fnASCIIUpcaseMatchesByteModelUptoRow.holds Tryd.pinned (OpenSpec.upto fnASCIIUpcaseMatchesByteModelSpec)

/-- 'n001_98.FnASCIIUpcaseIdempotentAndAbsorbsDowncase', WHERE WHAT IT READS IS OF BULK AT MOST 1048576: true; the input reads as it did. -/
def fnASCIIUpcaseIdempotentAndAbsorbsDowncaseUptoRow : OpenClaim := { program := "ytjflnoghecnigaadoor", sum := "f41dd4474912f71840b9d028911bfcf03be956d15c61556c2db3ae765b1d69ae", func := "github.com/itchyny/gojq/n001_98.FnASCIIUpcaseIdempotentAndAbsorbsDowncase", spec := "fnASCIIUpcaseIdempotentAndAbsorbsDowncase", inPlace := ["internal/abi.NoEscape", "internal/bytealg.MakeNoZero"], unfollowed := true, recurses := true, named := ["unicode/utf8.first", "unicode/utf8.acceptRanges"], apart := false, laid := [("unicode/utf8.acceptRanges", laid_unicode_utf8_acceptRanges), ("unicode/utf8.first", laid_unicode_utf8_first)], narrowed := true }
def FnASCIIUpcaseIdempotentAndAbsorbsDowncaseUptoSaid : Prop := fnASCIIUpcaseIdempotentAndAbsorbsDowncaseUptoRow.holds Tryd.pinned (OpenSpec.upto fnASCIIUpcaseIdempotentAndAbsorbsDowncaseSpec)

end Rows
end Go.Proofs.YtjflnoghecnigaaDoor

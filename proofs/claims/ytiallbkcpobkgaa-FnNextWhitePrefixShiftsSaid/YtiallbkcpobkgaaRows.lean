/-
  No cell of these rows narrows 'for every input' (looked for: loops, veiled, ifaces, maps, wideKeys, modest, calm, conditions, laid).
  DERIVED. THE GIVEN ROWS OF THIS SEAT. 4 by the template 'for every input the law returns true; each argument reads behind the call as it read before'; 0 by the template 'total and deterministic' (their statements: YtiallbkcpobkgaaTotals.lean).
  GIVEN WITH THE SEED: the statements are not yours to turn. If you find one false, say at which input.
  Laid BY PROGRAM, IN A SANDBOX (cutbox-rows.mjs): the forced cells as the released guide's own fill.sh prints them over the translation b8ff95ff93cba445… (all of the seat's roots in one cut). By AI agents, Wed Nov 11 2026. No macro, syntax, notation, axiom, sorry.
-/
import Derived.Test.YtiallbkcpobkgaaChecked
import GoSem.Claim
import GoSem.ClaimJoined
import GoSem.ClaimMapViews
import Derived.JoinedTies
import Derived.KernelRfl
namespace Go.Proofs.Ytiallbkcpobkgaa
/- THE CELL 'sum', in the pinned program and in every row, IS THE sha256 OF THE DUMP (.gsa) THAT YtiallbkcpobkgaaProg.lean LOADS. Nothing in Lean hashes anything: it is a label: what it is worth is what the hold of that sum in a sandbox is worth. -/
noncomputable def Try.pinned : Pinned := { name := "ytiallbkcpobkgaa", sum := "b8ff95ff93cba4459c973a976c9652acb51c40f77fe86f234b7a19f96fcbad13", checked := Try.checked }
namespace Rows
def none {H : Type} : Left H := { results := [], args := [] }

/-- 'n001_85.FnSkipCommentMatchesModel': WHATEVER THE INPUT: true; the input reads as it did. -/
def fnSkipCommentMatchesModelSpec : ChangeSpec := { name := "fnSkipCommentMatchesModel", fn := fun _ => fun
  | [d] => { results := [.lit (.bool true)], args := [d] }
  | _ => none }
def fnSkipCommentMatchesModelRow : OpenClaim := { program := "ytiallbkcpobkgaa", sum := "b8ff95ff93cba4459c973a976c9652acb51c40f77fe86f234b7a19f96fcbad13", func := "github.com/itchyny/gojq/n001_85.FnSkipCommentMatchesModel", spec := "fnSkipCommentMatchesModel", apart := false }
def FnSkipCommentMatchesModelSaid : Prop := fnSkipCommentMatchesModelRow.holds Try.pinned (OpenSpec.ofChange fnSkipCommentMatchesModelSpec)

/-- ITS FALSE NEIGHBOUR: 'it returns false'. Refute it at one input. -/
def fnSkipCommentMatchesModelWrong : ChangeSpec := { name := "fnSkipCommentMatchesModel", fn := fun _ => fun
  | [d] => { results := [.lit (.bool false)], args := [d] }
  | _ => none }
def FnSkipCommentMatchesModelWrongFalsely : Prop := fnSkipCommentMatchesModelRow.holds Try.pinned (OpenSpec.ofChange fnSkipCommentMatchesModelWrong)

/-- 'n001_85.FnNextSkipsBlanksAndComments': WHATEVER THE INPUT: true; the input reads as it did. -/
def fnNextSkipsBlanksAndCommentsSpec : ChangeSpec := { name := "fnNextSkipsBlanksAndComments", fn := fun _ => fun
  | [d] => { results := [.lit (.bool true)], args := [d] }
  | _ => none }
def fnNextSkipsBlanksAndCommentsRow : OpenClaim := { program := "ytiallbkcpobkgaa", sum := "b8ff95ff93cba4459c973a976c9652acb51c40f77fe86f234b7a19f96fcbad13", func := "github.com/itchyny/gojq/n001_85.FnNextSkipsBlanksAndComments", spec := "fnNextSkipsBlanksAndComments", apart := false }
def FnNextSkipsBlanksAndCommentsSaid : Prop := fnNextSkipsBlanksAndCommentsRow.holds Try.pinned (OpenSpec.ofChange fnNextSkipsBlanksAndCommentsSpec)

/-- ITS FALSE NEIGHBOUR: 'it returns false'. Refute it at one input. -/
def fnNextSkipsBlanksAndCommentsWrong : ChangeSpec := { name := "fnNextSkipsBlanksAndComments", fn := fun _ => fun
  | [d] => { results := [.lit (.bool false)], args := [d] }
  | _ => none }
def FnNextSkipsBlanksAndCommentsWrongFalsely : Prop := fnNextSkipsBlanksAndCommentsRow.holds Try.pinned (OpenSpec.ofChange fnNextSkipsBlanksAndCommentsWrong)

/-- 'n001_85.FnNextWhitePrefixShifts': WHATEVER THE INPUT: true; the input reads as it did. -/
def fnNextWhitePrefixShiftsSpec : ChangeSpec := { name := "fnNextWhitePrefixShifts", fn := fun _ => fun
  | [d1, d2] => { results := [.lit (.bool true)], args := [d1, d2] }
  | _ => none }
def fnNextWhitePrefixShiftsRow : OpenClaim := { program := "ytiallbkcpobkgaa", sum := "b8ff95ff93cba4459c973a976c9652acb51c40f77fe86f234b7a19f96fcbad13", func := "github.com/itchyny/gojq/n001_85.FnNextWhitePrefixShifts", spec := "fnNextWhitePrefixShifts", apart := false }
def FnNextWhitePrefixShiftsSaid : Prop := fnNextWhitePrefixShiftsRow.holds Try.pinned (OpenSpec.ofChange fnNextWhitePrefixShiftsSpec)

/-- ITS FALSE NEIGHBOUR: 'it returns false'. Refute it at one input. -/
def fnNextWhitePrefixShiftsWrong : ChangeSpec := { name := "fnNextWhitePrefixShifts", fn := fun _ => fun
  | [d1, d2] => { results := [.lit (.bool false)], args := [d1, d2] }
  | _ => none }
def FnNextWhitePrefixShiftsWrongFalsely : Prop := fnNextWhitePrefixShiftsRow.holds Try.pinned (OpenSpec.ofChange fnNextWhitePrefixShiftsWrong)

/-- 'n001_85.FnSkipCommentStopsAtLineEndOrNul': WHATEVER THE INPUT: true; the input reads as it did. -/
def fnSkipCommentStopsAtLineEndOrNulSpec : ChangeSpec := { name := "fnSkipCommentStopsAtLineEndOrNul", fn := fun _ => fun
  | [d] => { results := [.lit (.bool true)], args := [d] }
  | _ => none }
def fnSkipCommentStopsAtLineEndOrNulRow : OpenClaim := { program := "ytiallbkcpobkgaa", sum := "b8ff95ff93cba4459c973a976c9652acb51c40f77fe86f234b7a19f96fcbad13", func := "github.com/itchyny/gojq/n001_85.FnSkipCommentStopsAtLineEndOrNul", spec := "fnSkipCommentStopsAtLineEndOrNul", apart := false }
def FnSkipCommentStopsAtLineEndOrNulSaid : Prop := fnSkipCommentStopsAtLineEndOrNulRow.holds Try.pinned (OpenSpec.ofChange fnSkipCommentStopsAtLineEndOrNulSpec)

/-- ITS FALSE NEIGHBOUR: 'it returns false'. Refute it at one input. -/
def fnSkipCommentStopsAtLineEndOrNulWrong : ChangeSpec := { name := "fnSkipCommentStopsAtLineEndOrNul", fn := fun _ => fun
  | [d] => { results := [.lit (.bool false)], args := [d] }
  | _ => none }
def FnSkipCommentStopsAtLineEndOrNulWrongFalsely : Prop := fnSkipCommentStopsAtLineEndOrNulRow.holds Try.pinned (OpenSpec.ofChange fnSkipCommentStopsAtLineEndOrNulWrong)

/- THE SECOND FORM. 'bulk': how many values and letters a reading holds, each counted each time it is reached (what is shared counts as often as it is met; a slice's spare places count too). A statement '..UptoSaid' is the law's where the arguments, and the package variables that the reading takes, are together of bulk at most 1048576: NARROWER than '..Said'. Prove '..Said' where nothing that the law and all that it calls make is longer than what came in: it says more and counts as full. Else prove '..UptoSaid'. A law counts once. -/
mutual
def uptoBulk {H : Type} : DataW H → Nat
  | .lit (.string bytes) => bytes.length + 1
  | .lit _ => 1
  | .nil => 1
  | .ptr d => uptoBulk d + 1
  | .slice elems spare => uptoBulkAll elems + uptoBulkAll spare + 1
  | .agg parts => uptoBulkAll parts + 1
  | .iface _ d => uptoBulk d + 1
  | .map entries => uptoBulkEntries entries + 1
  | .held _ => 1
def uptoBulkAll {H : Type} : List (DataW H) → Nat
  | [] => 0
  | d :: r => uptoBulk d + uptoBulkAll r
def uptoBulkEntries {H : Type} : List (Lit × DataW H) → Nat
  | [] => 0
  | x :: r => uptoBulkEntry x + uptoBulkEntries r
def uptoBulkEntry {H : Type} : Lit × DataW H → Nat
  | (.string bytes, d) => bytes.length + uptoBulk d + 1
  | (_, d) => uptoBulk d + 1
 end
def uptoSmall : (H : Type) → List (DataW H) → Bool := fun _ ds => decide (uptoBulkAll ds ≤ 1048576)
def OpenSpec.upto (s : _root_.Go.ChangeSpec) : _root_.Go.OpenSpec := { _root_.Go.OpenSpec.ofChange s with cond := some uptoSmall }

/-- 'n001_85.FnSkipCommentMatchesModel', WHERE WHAT IT READS IS OF BULK AT MOST 1048576: true; the input reads as it did. -/
def fnSkipCommentMatchesModelUptoRow : OpenClaim := { program := "ytiallbkcpobkgaa", sum := "b8ff95ff93cba4459c973a976c9652acb51c40f77fe86f234b7a19f96fcbad13", func := "github.com/itchyny/gojq/n001_85.FnSkipCommentMatchesModel", spec := "fnSkipCommentMatchesModel", apart := false, narrowed := true }
def FnSkipCommentMatchesModelUptoSaid : Prop := fnSkipCommentMatchesModelUptoRow.holds Try.pinned (OpenSpec.upto fnSkipCommentMatchesModelSpec)

/-- 'n001_85.FnNextSkipsBlanksAndComments', WHERE WHAT IT READS IS OF BULK AT MOST 1048576: true; the input reads as it did. -/
def fnNextSkipsBlanksAndCommentsUptoRow : OpenClaim := { program := "ytiallbkcpobkgaa", sum := "b8ff95ff93cba4459c973a976c9652acb51c40f77fe86f234b7a19f96fcbad13", func := "github.com/itchyny/gojq/n001_85.FnNextSkipsBlanksAndComments", spec := "fnNextSkipsBlanksAndComments", apart := false, narrowed := true }
def FnNextSkipsBlanksAndCommentsUptoSaid : Prop := fnNextSkipsBlanksAndCommentsUptoRow.holds Try.pinned (OpenSpec.upto fnNextSkipsBlanksAndCommentsSpec)

/-- 'n001_85.FnNextWhitePrefixShifts', WHERE WHAT IT READS IS OF BULK AT MOST 1048576: true; the input reads as it did. -/
def fnNextWhitePrefixShiftsUptoRow : OpenClaim := { program := "ytiallbkcpobkgaa", sum := "b8ff95ff93cba4459c973a976c9652acb51c40f77fe86f234b7a19f96fcbad13", func := "github.com/itchyny/gojq/n001_85.FnNextWhitePrefixShifts", spec := "fnNextWhitePrefixShifts", apart := false, narrowed := true }
def FnNextWhitePrefixShiftsUptoSaid : Prop := fnNextWhitePrefixShiftsUptoRow.holds Try.pinned (OpenSpec.upto fnNextWhitePrefixShiftsSpec)

/-- 'n001_85.FnSkipCommentStopsAtLineEndOrNul', WHERE WHAT IT READS IS OF BULK AT MOST 1048576: true; the input reads as it did. -/
def fnSkipCommentStopsAtLineEndOrNulUptoRow : OpenClaim := { program := "ytiallbkcpobkgaa", sum := "b8ff95ff93cba4459c973a976c9652acb51c40f77fe86f234b7a19f96fcbad13", func := "github.com/itchyny/gojq/n001_85.FnSkipCommentStopsAtLineEndOrNul", spec := "fnSkipCommentStopsAtLineEndOrNul", apart := false, narrowed := true }
def FnSkipCommentStopsAtLineEndOrNulUptoSaid : Prop := fnSkipCommentStopsAtLineEndOrNulUptoRow.holds Try.pinned (OpenSpec.upto fnSkipCommentStopsAtLineEndOrNulSpec)

end Rows
end Go.Proofs.Ytiallbkcpobkgaa

/-
  No cell of these rows narrows 'for every input' (looked for: loops, veiled, ifaces, maps, wideKeys, modest, calm, conditions, laid).
  DERIVED. THE GIVEN ROWS OF THIS SEAT. 3 by the template 'for every input the law returns true; each argument reads behind the call as it read before'; 0 by the template 'total and deterministic' (their statements: YtdjebcejpachmaaTotals.lean).
  GIVEN WITH THE SEED: the statements are not yours to turn. If you find one false, say at which input.
  Laid BY PROGRAM, IN A SANDBOX (cutbox-rows.mjs): the forced cells as the released guide's own fill.sh prints them over the translation 2bcaac45445255c9… (all of the seat's roots in one cut). By AI agents, Wed Nov 11 2026. No macro, syntax, notation, axiom, sorry.
-/
import Derived.Test.YtdjebcejpachmaaChecked
import GoSem.Claim
import GoSem.ClaimJoined
import GoSem.ClaimMapViews
import Derived.JoinedTies
import Derived.KernelRfl
namespace Go.Proofs.Ytdjebcejpachmaa
/- THE CELL 'sum', in the pinned program and in every row, IS THE sha256 OF THE DUMP (.gsa) THAT YtdjebcejpachmaaProg.lean LOADS. Nothing in Lean hashes anything: it is a label: what it is worth is what the hold of that sum in a sandbox is worth. -/
noncomputable def Try.pinned : Pinned := { name := "ytdjebcejpachmaa", sum := "2bcaac45445255c94335d0f8a919645b68a4e8780e80a93c310df94ede53893f", checked := Try.checked }
namespace Rows
def none {H : Type} : Left H := { results := [], args := [] }

/-- 'n001_79.FnRepeatStringAdditiveInCount': WHATEVER THE INPUT: true; the input reads as it did. -/
def fnRepeatStringAdditiveInCountSpec : ChangeSpec := { name := "fnRepeatStringAdditiveInCount", fn := fun _ => fun
  | [d1, d2, d3] => { results := [.lit (.bool true)], args := [d1, d2, d3] }
  | _ => none }
def fnRepeatStringAdditiveInCountRow : OpenClaim := { program := "ytdjebcejpachmaa", sum := "2bcaac45445255c94335d0f8a919645b68a4e8780e80a93c310df94ede53893f", func := "github.com/itchyny/gojq/n001_79.FnRepeatStringAdditiveInCount", spec := "fnRepeatStringAdditiveInCount", inPlace := ["internal/abi.NoEscape", "internal/bytealg.MakeNoZero"], apart := false }
def FnRepeatStringAdditiveInCountSaid : Prop := fnRepeatStringAdditiveInCountRow.holds Try.pinned (OpenSpec.ofChange fnRepeatStringAdditiveInCountSpec)

/-- ITS FALSE NEIGHBOUR: 'it returns false'. Refute it at one input. -/
def fnRepeatStringAdditiveInCountWrong : ChangeSpec := { name := "fnRepeatStringAdditiveInCount", fn := fun _ => fun
  | [d1, d2, d3] => { results := [.lit (.bool false)], args := [d1, d2, d3] }
  | _ => none }
def FnRepeatStringAdditiveInCountWrongFalsely : Prop := fnRepeatStringAdditiveInCountRow.holds Try.pinned (OpenSpec.ofChange fnRepeatStringAdditiveInCountWrong)

/-- 'n001_79.FnDeepMergeRightIdempotentAndPure': WHATEVER THE INPUT: true; the input reads as it did. -/
def fnDeepMergeRightIdempotentAndPureSpec : ChangeSpec := { name := "fnDeepMergeRightIdempotentAndPure", fn := fun _ => fun
  | [d1, d2, d3, d4, d5, d6, d7, d8] => { results := [.lit (.bool true)], args := [d1, d2, d3, d4, d5, d6, d7, d8] }
  | _ => none }
def fnDeepMergeRightIdempotentAndPureRow : OpenClaim := { program := "ytdjebcejpachmaa", sum := "2bcaac45445255c94335d0f8a919645b68a4e8780e80a93c310df94ede53893f", func := "github.com/itchyny/gojq/n001_79.FnDeepMergeRightIdempotentAndPure", spec := "fnDeepMergeRightIdempotentAndPure", recurses := true, apart := false }
def FnDeepMergeRightIdempotentAndPureSaid : Prop := fnDeepMergeRightIdempotentAndPureRow.holds Try.pinned (OpenSpec.ofChange fnDeepMergeRightIdempotentAndPureSpec)

/-- ITS FALSE NEIGHBOUR: 'it returns false'. Refute it at one input. -/
def fnDeepMergeRightIdempotentAndPureWrong : ChangeSpec := { name := "fnDeepMergeRightIdempotentAndPure", fn := fun _ => fun
  | [d1, d2, d3, d4, d5, d6, d7, d8] => { results := [.lit (.bool false)], args := [d1, d2, d3, d4, d5, d6, d7, d8] }
  | _ => none }
def FnDeepMergeRightIdempotentAndPureWrongFalsely : Prop := fnDeepMergeRightIdempotentAndPureRow.holds Try.pinned (OpenSpec.ofChange fnDeepMergeRightIdempotentAndPureWrong)

/-- 'n001_79.FnRepeatStringTable': WHATEVER THE INPUT: true; the input reads as it did. -/
def fnRepeatStringTableSpec : ChangeSpec := { name := "fnRepeatStringTable", fn := fun _ => fun
  | [d1, d2] => { results := [.lit (.bool true)], args := [d1, d2] }
  | _ => none }
def fnRepeatStringTableRow : OpenClaim := { program := "ytdjebcejpachmaa", sum := "2bcaac45445255c94335d0f8a919645b68a4e8780e80a93c310df94ede53893f", func := "github.com/itchyny/gojq/n001_79.FnRepeatStringTable", spec := "fnRepeatStringTable", inPlace := ["internal/abi.NoEscape", "internal/bytealg.MakeNoZero"], apart := false }
def FnRepeatStringTableSaid : Prop := fnRepeatStringTableRow.holds Try.pinned (OpenSpec.ofChange fnRepeatStringTableSpec)

/-- ITS FALSE NEIGHBOUR: 'it returns false'. Refute it at one input. -/
def fnRepeatStringTableWrong : ChangeSpec := { name := "fnRepeatStringTable", fn := fun _ => fun
  | [d1, d2] => { results := [.lit (.bool false)], args := [d1, d2] }
  | _ => none }
def FnRepeatStringTableWrongFalsely : Prop := fnRepeatStringTableRow.holds Try.pinned (OpenSpec.ofChange fnRepeatStringTableWrong)

/- THE SECOND FORM. 'bulk': how many values and letters a reading holds, each counted each time it is reached (what is shared counts as often as it is met; a slice's spare places count too). A statement '..UptoSaid' is the law's where the arguments, and the package variables that the reading takes, are together of bulk at most 1048576: NARROWER than '..Said'. Prove '..Said' where nothing that the law and all that it calls make is longer than what came in: it says more and counts as full. Else prove '..UptoSaid'. A law counts once. -/
mutual
def uptoBulk {H : Type} : DataW H → Nat
  | .lit (.string bytes) => bytes.length + 1
  | .lit _ => 1
  | .nil => 1
  | .ptr d => uptoBulk d + 1
  | .slice elems spare => uptoBulkAll elems + uptoBulkAll spare + 1
  | .agg parts => uptoBulkAll parts + 1
  | .iface _ d => uptoBulk d + 1
  | .map entries => uptoBulkEntries entries + 1
  | .held _ => 1
def uptoBulkAll {H : Type} : List (DataW H) → Nat
  | [] => 0
  | d :: r => uptoBulk d + uptoBulkAll r
def uptoBulkEntries {H : Type} : List (Lit × DataW H) → Nat
  | [] => 0
  | x :: r => uptoBulkEntry x + uptoBulkEntries r
def uptoBulkEntry {H : Type} : Lit × DataW H → Nat
  | (.string bytes, d) => bytes.length + uptoBulk d + 1
  | (_, d) => uptoBulk d + 1
 end
def uptoSmall : (H : Type) → List (DataW H) → Bool := fun _ ds => decide (uptoBulkAll ds ≤ 1048576)
def OpenSpec.upto (s : _root_.Go.ChangeSpec) : _root_.Go.OpenSpec := { _root_.Go.OpenSpec.ofChange s with cond := some uptoSmall }

/-- 'n001_79.FnRepeatStringAdditiveInCount', WHERE WHAT IT READS IS OF BULK AT MOST 1048576: true; the input reads as it did. -/
def fnRepeatStringAdditiveInCountUptoRow : OpenClaim := { program := "ytdjebcejpachmaa", sum := "2bcaac45445255c94335d0f8a919645b68a4e8780e80a93c310df94ede53893f", func := "github.com/itchyny/gojq/n001_79.FnRepeatStringAdditiveInCount", spec := "fnRepeatStringAdditiveInCount", inPlace := ["internal/abi.NoEscape", "internal/bytealg.MakeNoZero"], apart := false, narrowed := true }
def FnRepeatStringAdditiveInCountUptoSaid : Prop := fnRepeatStringAdditiveInCountUptoRow.holds Try.pinned (OpenSpec.upto fnRepeatStringAdditiveInCountSpec)

/-- 'n001_79.FnDeepMergeRightIdempotentAndPure', WHERE WHAT IT READS IS OF BULK AT MOST 1048576: true; the input reads as it did. -/
def fnDeepMergeRightIdempotentAndPureUptoRow : OpenClaim := { program := "ytdjebcejpachmaa", sum := "2bcaac45445255c94335d0f8a919645b68a4e8780e80a93c310df94ede53893f", func := "github.com/itchyny/gojq/n001_79.FnDeepMergeRightIdempotentAndPure", spec := "fnDeepMergeRightIdempotentAndPure", recurses := true, apart := false, narrowed := true }
def FnDeepMergeRightIdempotentAndPureUptoSaid : Prop := fnDeepMergeRightIdempotentAndPureUptoRow.holds Try.pinned (OpenSpec.upto fnDeepMergeRightIdempotentAndPureSpec)

/-- 'n001_79.FnRepeatStringTable', WHERE WHAT IT READS IS OF BULK AT MOST 1048576: true; the input reads as it did. -/
def fnRepeatStringTableUptoRow : OpenClaim := { program := "ytdjebcejpachmaa", sum := "2bcaac45445255c94335d0f8a919645b68a4e8780e80a93c310df94ede53893f", func := "github.com/itchyny/gojq/n001_79.FnRepeatStringTable", spec := "fnRepeatStringTable", inPlace := ["internal/abi.NoEscape", "internal/bytealg.MakeNoZero"], apart := false, narrowed := true }
def FnRepeatStringTableUptoSaid : Prop := fnRepeatStringTableUptoRow.holds Try.pinned (OpenSpec.upto fnRepeatStringTableSpec)

end Rows
end Go.Proofs.Ytdjebcejpachmaa

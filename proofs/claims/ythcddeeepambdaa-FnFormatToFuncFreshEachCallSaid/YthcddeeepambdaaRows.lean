/-
  No cell of these rows narrows 'for every input' (looked for: loops, veiled, ifaces, maps, wideKeys, modest, calm, conditions, laid).
  DERIVED. THE GIVEN ROWS OF THIS SEAT. 2 by the template 'for every input the law returns true; each argument reads behind the call as it read before'; 0 by the template 'total and deterministic' (their statements: YthcddeeepambdaaTotals.lean).
  GIVEN WITH THE SEED: the statements are not yours to turn. If you find one false, say at which input.
  Laid BY PROGRAM, IN A SANDBOX (cutbox-rows.mjs): the forced cells as the released guide's own fill.sh prints them over the translation e6997f8c41575fd5… (all of the seat's roots in one cut). By AI agents, Wed Nov 11 2026. No macro, syntax, notation, axiom, sorry.
-/
import Derived.Test.YthcddeeepambdaaChecked
import GoSem.Claim
import GoSem.ClaimJoined
import GoSem.ClaimMapViews
import Derived.JoinedTies
import Derived.KernelRfl
namespace Go.Proofs.Ythcddeeepambdaa
/- THE CELL 'sum', in the pinned program and in every row, IS THE sha256 OF THE DUMP (.gsa) THAT YthcddeeepambdaaProg.lean LOADS. Nothing in Lean hashes anything: it is a label: what it is worth is what the hold of that sum in a sandbox is worth. -/
noncomputable def Try.pinned : Pinned := { name := "ythcddeeepambdaa", sum := "e6997f8c41575fd5b2087ed5ece00d797c6e541ee12610fa89a9ce107186bb41", checked := Try.checked }
namespace Rows
def none {H : Type} : Left H := { results := [], args := [] }

/-- 'n001_89.FnFormatToFuncCaseTable': WHATEVER THE INPUT: true; the input reads as it did. -/
def fnFormatToFuncCaseTableSpec : ChangeSpec := { name := "fnFormatToFuncCaseTable", fn := fun _ => fun
  | [d] => { results := [.lit (.bool true)], args := [d] }
  | _ => none }
def fnFormatToFuncCaseTableRow : OpenClaim := { program := "ythcddeeepambdaa", sum := "e6997f8c41575fd5b2087ed5ece00d797c6e541ee12610fa89a9ce107186bb41", func := "github.com/itchyny/gojq/n001_89.FnFormatToFuncCaseTable", spec := "fnFormatToFuncCaseTable", apart := false }
def FnFormatToFuncCaseTableSaid : Prop := fnFormatToFuncCaseTableRow.holds Try.pinned (OpenSpec.ofChange fnFormatToFuncCaseTableSpec)

/-- ITS FALSE NEIGHBOUR: 'it returns false'. Refute it at one input. -/
def fnFormatToFuncCaseTableWrong : ChangeSpec := { name := "fnFormatToFuncCaseTable", fn := fun _ => fun
  | [d] => { results := [.lit (.bool false)], args := [d] }
  | _ => none }
def FnFormatToFuncCaseTableWrongFalsely : Prop := fnFormatToFuncCaseTableRow.holds Try.pinned (OpenSpec.ofChange fnFormatToFuncCaseTableWrong)

/-- 'n001_89.FnFormatToFuncFreshEachCall': WHATEVER THE INPUT: true; the input reads as it did. -/
def fnFormatToFuncFreshEachCallSpec : ChangeSpec := { name := "fnFormatToFuncFreshEachCall", fn := fun _ => fun
  | [d] => { results := [.lit (.bool true)], args := [d] }
  | _ => none }
def fnFormatToFuncFreshEachCallRow : OpenClaim := { program := "ythcddeeepambdaa", sum := "e6997f8c41575fd5b2087ed5ece00d797c6e541ee12610fa89a9ce107186bb41", func := "github.com/itchyny/gojq/n001_89.FnFormatToFuncFreshEachCall", spec := "fnFormatToFuncFreshEachCall", apart := false }
def FnFormatToFuncFreshEachCallSaid : Prop := fnFormatToFuncFreshEachCallRow.holds Try.pinned (OpenSpec.ofChange fnFormatToFuncFreshEachCallSpec)

/-- ITS FALSE NEIGHBOUR: 'it returns false'. Refute it at one input. -/
def fnFormatToFuncFreshEachCallWrong : ChangeSpec := { name := "fnFormatToFuncFreshEachCall", fn := fun _ => fun
  | [d] => { results := [.lit (.bool false)], args := [d] }
  | _ => none }
def FnFormatToFuncFreshEachCallWrongFalsely : Prop := fnFormatToFuncFreshEachCallRow.holds Try.pinned (OpenSpec.ofChange fnFormatToFuncFreshEachCallWrong)

/- THE SECOND FORM. 'bulk': how many values and letters a reading holds, each counted each time it is reached (what is shared counts as often as it is met; a slice's spare places count too). A statement '..UptoSaid' is the law's where the arguments, and the package variables that the reading takes, are together of bulk at most 1048576: NARROWER than '..Said'. Prove '..Said' where nothing that the law and all that it calls make is longer than what came in: it says more and counts as full. Else prove '..UptoSaid'. A law counts once. -/
mutual
def uptoBulk {H : Type} : DataW H → Nat
  | .lit (.string bytes) => bytes.length + 1
  | .lit _ => 1
  | .nil => 1
  | .ptr d => uptoBulk d + 1
  | .slice elems spare => uptoBulkAll elems + uptoBulkAll spare + 1
  | .agg parts => uptoBulkAll parts + 1
  | .iface _ d => uptoBulk d + 1
  | .map entries => uptoBulkEntries entries + 1
  | .held _ => 1
def uptoBulkAll {H : Type} : List (DataW H) → Nat
  | [] => 0
  | d :: r => uptoBulk d + uptoBulkAll r
def uptoBulkEntries {H : Type} : List (Lit × DataW H) → Nat
  | [] => 0
  | x :: r => uptoBulkEntry x + uptoBulkEntries r
def uptoBulkEntry {H : Type} : Lit × DataW H → Nat
  | (.string bytes, d) => bytes.length + uptoBulk d + 1
  | (_, d) => uptoBulk d + 1
 end
def uptoSmall : (H : Type) → List (DataW H) → Bool := fun _ ds => decide (uptoBulkAll ds ≤ 1048576)
def OpenSpec.upto (s : _root_.Go.ChangeSpec) : _root_.Go.OpenSpec := { _root_.Go.OpenSpec.ofChange s with cond := some uptoSmall }

/-- 'n001_89.FnFormatToFuncCaseTable', WHERE WHAT IT READS IS OF BULK AT MOST 1048576: true; the input reads as it did. -/
def fnFormatToFuncCaseTableUptoRow : OpenClaim := { program := "ythcddeeepambdaa", sum := "e6997f8c41575fd5b2087ed5ece00d797c6e541ee12610fa89a9ce107186bb41", func := "github.com/itchyny/gojq/n001_89.FnFormatToFuncCaseTable", spec := "fnFormatToFuncCaseTable", apart := false, narrowed := true }
def FnFormatToFuncCaseTableUptoSaid : Prop := fnFormatToFuncCaseTableUptoRow.holds Try.pinned (OpenSpec.upto fnFormatToFuncCaseTableSpec)

/-- 'n001_89.FnFormatToFuncFreshEachCall', WHERE WHAT IT READS IS OF BULK AT MOST 1048576: true; the input reads as it did. -/
def fnFormatToFuncFreshEachCallUptoRow : OpenClaim := { program := "ythcddeeepambdaa", sum := "e6997f8c41575fd5b2087ed5ece00d797c6e541ee12610fa89a9ce107186bb41", func := "github.com/itchyny/gojq/n001_89.FnFormatToFuncFreshEachCall", spec := "fnFormatToFuncFreshEachCall", apart := false, narrowed := true }
def FnFormatToFuncFreshEachCallUptoSaid : Prop := fnFormatToFuncFreshEachCallUptoRow.holds Try.pinned (OpenSpec.upto fnFormatToFuncFreshEachCallSpec)

end Rows
end Go.Proofs.Ythcddeeepambdaa

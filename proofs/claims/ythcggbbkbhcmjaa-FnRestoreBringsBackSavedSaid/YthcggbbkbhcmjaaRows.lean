/-
  No cell of these rows narrows 'for every input' (looked for: loops, veiled, ifaces, maps, wideKeys, modest, calm, conditions, laid).
  DERIVED. THE GIVEN ROWS OF THIS SEAT. 5 by the template 'for every input the law returns true; each argument reads behind the call as it read before'; 0 by the template 'total and deterministic' (their statements: YthcggbbkbhcmjaaTotals.lean).
  GIVEN WITH THE SEED: the statements are not yours to turn. If you find one false, say at which input.
  Laid BY PROGRAM, IN A SANDBOX (cutbox-rows.mjs): the forced cells as the released guide's own fill.sh prints them over the translation 96eea89ff07a6562… (all of the seat's roots in one cut). By AI agents, Wed Nov 11 2026. No macro, syntax, notation, axiom, sorry.
-/
import Derived.Test.YthcggbbkbhcmjaaChecked
import GoSem.Claim
import GoSem.ClaimJoined
import GoSem.ClaimMapViews
import Derived.JoinedTies
import Derived.KernelRfl
namespace Go.Proofs.Ythcggbbkbhcmjaa
/- THE CELL 'sum', in the pinned program and in every row, IS THE sha256 OF THE DUMP (.gsa) THAT YthcggbbkbhcmjaaProg.lean LOADS. Nothing in Lean hashes anything: it is a label: what it is worth is what the hold of that sum in a sandbox is worth. -/
noncomputable def Try.pinned : Pinned := { name := "ythcggbbkbhcmjaa", sum := "96eea89ff07a65620391ae65eebbf7353581c45f0686f0befe2f61d36960561e", checked := Try.checked }
namespace Rows
def none {H : Type} : Left H := { results := [], args := [] }

/-- 'n001_8.FnTopIsPeek': WHATEVER THE INPUT: true; the input reads as it did. -/
def fnTopIsPeekSpec : ChangeSpec := { name := "fnTopIsPeek", fn := fun _ => fun
  | [d1, d2] => { results := [.lit (.bool true)], args := [d1, d2] }
  | _ => none }
def fnTopIsPeekRow : OpenClaim := { program := "ythcggbbkbhcmjaa", sum := "96eea89ff07a65620391ae65eebbf7353581c45f0686f0befe2f61d36960561e", func := "github.com/itchyny/gojq/n001_8.FnTopIsPeek", spec := "fnTopIsPeek", apart := false }
def FnTopIsPeekSaid : Prop := fnTopIsPeekRow.holds Try.pinned (OpenSpec.ofChange fnTopIsPeekSpec)

/-- ITS FALSE NEIGHBOUR: 'it returns false'. Refute it at one input. -/
def fnTopIsPeekWrong : ChangeSpec := { name := "fnTopIsPeek", fn := fun _ => fun
  | [d1, d2] => { results := [.lit (.bool false)], args := [d1, d2] }
  | _ => none }
def FnTopIsPeekWrongFalsely : Prop := fnTopIsPeekRow.holds Try.pinned (OpenSpec.ofChange fnTopIsPeekWrong)

/-- 'n001_8.FnPushPopInverse': WHATEVER THE INPUT: true; the input reads as it did. -/
def fnPushPopInverseSpec : ChangeSpec := { name := "fnPushPopInverse", fn := fun _ => fun
  | [d1, d2, d3] => { results := [.lit (.bool true)], args := [d1, d2, d3] }
  | _ => none }
def fnPushPopInverseRow : OpenClaim := { program := "ythcggbbkbhcmjaa", sum := "96eea89ff07a65620391ae65eebbf7353581c45f0686f0befe2f61d36960561e", func := "github.com/itchyny/gojq/n001_8.FnPushPopInverse", spec := "fnPushPopInverse", apart := false }
def FnPushPopInverseSaid : Prop := fnPushPopInverseRow.holds Try.pinned (OpenSpec.ofChange fnPushPopInverseSpec)

/-- ITS FALSE NEIGHBOUR: 'it returns false'. Refute it at one input. -/
def fnPushPopInverseWrong : ChangeSpec := { name := "fnPushPopInverse", fn := fun _ => fun
  | [d1, d2, d3] => { results := [.lit (.bool false)], args := [d1, d2, d3] }
  | _ => none }
def FnPushPopInverseWrongFalsely : Prop := fnPushPopInverseRow.holds Try.pinned (OpenSpec.ofChange fnPushPopInverseWrong)

/-- 'n001_8.FnStackAgreesWithSliceModel': WHATEVER THE INPUT: true; the input reads as it did. -/
def fnStackAgreesWithSliceModelSpec : ChangeSpec := { name := "fnStackAgreesWithSliceModel", fn := fun _ => fun
  | [d1, d2] => { results := [.lit (.bool true)], args := [d1, d2] }
  | _ => none }
def fnStackAgreesWithSliceModelRow : OpenClaim := { program := "ythcggbbkbhcmjaa", sum := "96eea89ff07a65620391ae65eebbf7353581c45f0686f0befe2f61d36960561e", func := "github.com/itchyny/gojq/n001_8.FnStackAgreesWithSliceModel", spec := "fnStackAgreesWithSliceModel", apart := false }
def FnStackAgreesWithSliceModelSaid : Prop := fnStackAgreesWithSliceModelRow.holds Try.pinned (OpenSpec.ofChange fnStackAgreesWithSliceModelSpec)

/-- ITS FALSE NEIGHBOUR: 'it returns false'. Refute it at one input. -/
def fnStackAgreesWithSliceModelWrong : ChangeSpec := { name := "fnStackAgreesWithSliceModel", fn := fun _ => fun
  | [d1, d2] => { results := [.lit (.bool false)], args := [d1, d2] }
  | _ => none }
def FnStackAgreesWithSliceModelWrongFalsely : Prop := fnStackAgreesWithSliceModelRow.holds Try.pinned (OpenSpec.ofChange fnStackAgreesWithSliceModelWrong)

/-- 'n001_8.FnRestoreBringsBackSaved': WHATEVER THE INPUT: true; the input reads as it did. -/
def fnRestoreBringsBackSavedSpec : ChangeSpec := { name := "fnRestoreBringsBackSaved", fn := fun _ => fun
  | [d1, d2, d3] => { results := [.lit (.bool true)], args := [d1, d2, d3] }
  | _ => none }
def fnRestoreBringsBackSavedRow : OpenClaim := { program := "ythcggbbkbhcmjaa", sum := "96eea89ff07a65620391ae65eebbf7353581c45f0686f0befe2f61d36960561e", func := "github.com/itchyny/gojq/n001_8.FnRestoreBringsBackSaved", spec := "fnRestoreBringsBackSaved", apart := false }
def FnRestoreBringsBackSavedSaid : Prop := fnRestoreBringsBackSavedRow.holds Try.pinned (OpenSpec.ofChange fnRestoreBringsBackSavedSpec)

/-- ITS FALSE NEIGHBOUR: 'it returns false'. Refute it at one input. -/
def fnRestoreBringsBackSavedWrong : ChangeSpec := { name := "fnRestoreBringsBackSaved", fn := fun _ => fun
  | [d1, d2, d3] => { results := [.lit (.bool false)], args := [d1, d2, d3] }
  | _ => none }
def FnRestoreBringsBackSavedWrongFalsely : Prop := fnRestoreBringsBackSavedRow.holds Try.pinned (OpenSpec.ofChange fnRestoreBringsBackSavedWrong)

/-- 'n001_8.FnFreshStacksIndependent': WHATEVER THE INPUT: true; the input reads as it did. -/
def fnFreshStacksIndependentSpec : ChangeSpec := { name := "fnFreshStacksIndependent", fn := fun _ => fun
  | [d1, d2] => { results := [.lit (.bool true)], args := [d1, d2] }
  | _ => none }
def fnFreshStacksIndependentRow : OpenClaim := { program := "ythcggbbkbhcmjaa", sum := "96eea89ff07a65620391ae65eebbf7353581c45f0686f0befe2f61d36960561e", func := "github.com/itchyny/gojq/n001_8.FnFreshStacksIndependent", spec := "fnFreshStacksIndependent", apart := false }
def FnFreshStacksIndependentSaid : Prop := fnFreshStacksIndependentRow.holds Try.pinned (OpenSpec.ofChange fnFreshStacksIndependentSpec)

/-- ITS FALSE NEIGHBOUR: 'it returns false'. Refute it at one input. -/
def fnFreshStacksIndependentWrong : ChangeSpec := { name := "fnFreshStacksIndependent", fn := fun _ => fun
  | [d1, d2] => { results := [.lit (.bool false)], args := [d1, d2] }
  | _ => none }
def FnFreshStacksIndependentWrongFalsely : Prop := fnFreshStacksIndependentRow.holds Try.pinned (OpenSpec.ofChange fnFreshStacksIndependentWrong)

/- THE SECOND FORM. 'bulk': how many values and letters a reading holds, each counted each time it is reached (what is shared counts as often as it is met; a slice's spare places count too). A statement '..UptoSaid' is the law's where the arguments, and the package variables that the reading takes, are together of bulk at most 1048576: NARROWER than '..Said'. Prove '..Said' where nothing that the law and all that it calls make is longer than what came in: it says more and counts as full. Else prove '..UptoSaid'. A law counts once. -/
mutual
def uptoBulk {H : Type} : DataW H → Nat
  | .lit (.string bytes) => bytes.length + 1
  | .lit _ => 1
  | .nil => 1
  | .ptr d => uptoBulk d + 1
  | .slice elems spare => uptoBulkAll elems + uptoBulkAll spare + 1
  | .agg parts => uptoBulkAll parts + 1
  | .iface _ d => uptoBulk d + 1
  | .map entries => uptoBulkEntries entries + 1
  | .held _ => 1
def uptoBulkAll {H : Type} : List (DataW H) → Nat
  | [] => 0
  | d :: r => uptoBulk d + uptoBulkAll r
def uptoBulkEntries {H : Type} : List (Lit × DataW H) → Nat
  | [] => 0
  | x :: r => uptoBulkEntry x + uptoBulkEntries r
def uptoBulkEntry {H : Type} : Lit × DataW H → Nat
  | (.string bytes, d) => bytes.length + uptoBulk d + 1
  | (_, d) => uptoBulk d + 1
 end
def uptoSmall : (H : Type) → List (DataW H) → Bool := fun _ ds => decide (uptoBulkAll ds ≤ 1048576)
def OpenSpec.upto (s : _root_.Go.ChangeSpec) : _root_.Go.OpenSpec := { _root_.Go.OpenSpec.ofChange s with cond := some uptoSmall }

/-- 'n001_8.FnTopIsPeek', WHERE WHAT IT READS IS OF BULK AT MOST 1048576: true; the input reads as it did. -/
def fnTopIsPeekUptoRow : OpenClaim := { program := "ythcggbbkbhcmjaa", sum := "96eea89ff07a65620391ae65eebbf7353581c45f0686f0befe2f61d36960561e", func := "github.com/itchyny/gojq/n001_8.FnTopIsPeek", spec := "fnTopIsPeek", apart := false, narrowed := true }
def FnTopIsPeekUptoSaid : Prop := fnTopIsPeekUptoRow.holds Try.pinned (OpenSpec.upto fnTopIsPeekSpec)

/-- 'n001_8.FnPushPopInverse', WHERE WHAT IT READS IS OF BULK AT MOST 1048576: true; the input reads as it did. -/
def fnPushPopInverseUptoRow : OpenClaim := { program := "ythcggbbkbhcmjaa", sum := "96eea89ff07a65620391ae65eebbf7353581c45f0686f0befe2f61d36960561e", func := "github.com/itchyny/gojq/n001_8.FnPushPopInverse", spec := "fnPushPopInverse", apart := false, narrowed := true }
def FnPushPopInverseUptoSaid : Prop := fnPushPopInverseUptoRow.holds Try.pinned (OpenSpec.upto fnPushPopInverseSpec)

/-- 'n001_8.FnStackAgreesWithSliceModel', WHERE WHAT IT READS IS OF BULK AT MOST 1048576: true; the input reads as it did. -/
def fnStackAgreesWithSliceModelUptoRow : OpenClaim := { program := "ythcggbbkbhcmjaa", sum := "96eea89ff07a65620391ae65eebbf7353581c45f0686f0befe2f61d36960561e", func := "github.com/itchyny/gojq/n001_8.FnStackAgreesWithSliceModel", spec := "fnStackAgreesWithSliceModel", apart := false, narrowed := true }
def FnStackAgreesWithSliceModelUptoSaid : Prop := fnStackAgreesWithSliceModelUptoRow.holds Try.pinned (OpenSpec.upto fnStackAgreesWithSliceModelSpec)

/-- 'n001_8.FnRestoreBringsBackSaved', WHERE WHAT IT READS IS OF BULK AT MOST 1048576: true; the input reads as it did. -/
def fnRestoreBringsBackSavedUptoRow : OpenClaim := { program := "ythcggbbkbhcmjaa", sum := "96eea89ff07a65620391ae65eebbf7353581c45f0686f0befe2f61d36960561e", func := "github.com/itchyny/gojq/n001_8.FnRestoreBringsBackSaved", spec := "fnRestoreBringsBackSaved", apart := false, narrowed := true }
def FnRestoreBringsBackSavedUptoSaid : Prop := fnRestoreBringsBackSavedUptoRow.holds Try.pinned (OpenSpec.upto fnRestoreBringsBackSavedSpec)

/-- 'n001_8.FnFreshStacksIndependent', WHERE WHAT IT READS IS OF BULK AT MOST 1048576: true; the input reads as it did. -/
def fnFreshStacksIndependentUptoRow : OpenClaim := { program := "ythcggbbkbhcmjaa", sum := "96eea89ff07a65620391ae65eebbf7353581c45f0686f0befe2f61d36960561e", func := "github.com/itchyny/gojq/n001_8.FnFreshStacksIndependent", spec := "fnFreshStacksIndependent", apart := false, narrowed := true }
def FnFreshStacksIndependentUptoSaid : Prop := fnFreshStacksIndependentUptoRow.holds Try.pinned (OpenSpec.upto fnFreshStacksIndependentSpec)

end Rows
end Go.Proofs.Ythcggbbkbhcmjaa

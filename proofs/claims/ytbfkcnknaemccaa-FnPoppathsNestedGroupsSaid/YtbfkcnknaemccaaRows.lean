/-
  No cell of these rows narrows 'for every input' (looked for: loops, veiled, ifaces, maps, wideKeys, modest, calm, conditions, laid).
  DERIVED. THE GIVEN ROWS OF THIS SEAT. 2 by the template 'for every input the law returns true; each argument reads behind the call as it read before'; 0 by the template 'total and deterministic' (their statements: YtbfkcnknaemccaaTotals.lean).
  GIVEN WITH THE SEED: the statements are not yours to turn. If you find one false, say at which input.
  Laid BY PROGRAM, IN A SANDBOX (cutbox-rows.mjs): the forced cells as the released guide's own fill.sh prints them over the translation aa6433da88842674… (all of the seat's roots in one cut). By AI agents, Wed Nov 11 2026. No macro, syntax, notation, axiom, sorry.
-/
import Derived.Test.YtbfkcnknaemccaaChecked
import GoSem.Claim
import GoSem.ClaimJoined
import GoSem.ClaimMapViews
import Derived.JoinedTies
import Derived.KernelRfl
namespace Go.Proofs.Ytbfkcnknaemccaa
/- THE CELL 'sum', in the pinned program and in every row, IS THE sha256 OF THE DUMP (.gsa) THAT YtbfkcnknaemccaaProg.lean LOADS. Nothing in Lean hashes anything: it is a label: what it is worth is what the hold of that sum in a sandbox is worth. -/
noncomputable def Try.pinned : Pinned := { name := "ytbfkcnknaemccaa", sum := "aa6433da888426746cf7376a2e0f588842e216f232825a7e613841e2a0f3237b", checked := Try.checked }
namespace Rows
def none {H : Type} : Left H := { results := [], args := [] }

/-- 'n001_93.FnPoppathsReturnsPushedInOrder': WHATEVER THE INPUT: true; the input reads as it did. -/
def fnPoppathsReturnsPushedInOrderSpec : ChangeSpec := { name := "fnPoppathsReturnsPushedInOrder", fn := fun _ => fun
  | [d1, d2] => { results := [.lit (.bool true)], args := [d1, d2] }
  | _ => none }
def fnPoppathsReturnsPushedInOrderRow : OpenClaim := { program := "ytbfkcnknaemccaa", sum := "aa6433da888426746cf7376a2e0f588842e216f232825a7e613841e2a0f3237b", func := "github.com/itchyny/gojq/n001_93.FnPoppathsReturnsPushedInOrder", spec := "fnPoppathsReturnsPushedInOrder", apart := false }
def FnPoppathsReturnsPushedInOrderSaid : Prop := fnPoppathsReturnsPushedInOrderRow.holds Try.pinned (OpenSpec.ofChange fnPoppathsReturnsPushedInOrderSpec)

/-- ITS FALSE NEIGHBOUR: 'it returns false'. Refute it at one input. -/
def fnPoppathsReturnsPushedInOrderWrong : ChangeSpec := { name := "fnPoppathsReturnsPushedInOrder", fn := fun _ => fun
  | [d1, d2] => { results := [.lit (.bool false)], args := [d1, d2] }
  | _ => none }
def FnPoppathsReturnsPushedInOrderWrongFalsely : Prop := fnPoppathsReturnsPushedInOrderRow.holds Try.pinned (OpenSpec.ofChange fnPoppathsReturnsPushedInOrderWrong)

/-- 'n001_93.FnPoppathsNestedGroups': WHATEVER THE INPUT: true; the input reads as it did. -/
def fnPoppathsNestedGroupsSpec : ChangeSpec := { name := "fnPoppathsNestedGroups", fn := fun _ => fun
  | [d1, d2, d3, d4] => { results := [.lit (.bool true)], args := [d1, d2, d3, d4] }
  | _ => none }
def fnPoppathsNestedGroupsRow : OpenClaim := { program := "ytbfkcnknaemccaa", sum := "aa6433da888426746cf7376a2e0f588842e216f232825a7e613841e2a0f3237b", func := "github.com/itchyny/gojq/n001_93.FnPoppathsNestedGroups", spec := "fnPoppathsNestedGroups", apart := false }
def FnPoppathsNestedGroupsSaid : Prop := fnPoppathsNestedGroupsRow.holds Try.pinned (OpenSpec.ofChange fnPoppathsNestedGroupsSpec)

/-- ITS FALSE NEIGHBOUR: 'it returns false'. Refute it at one input. -/
def fnPoppathsNestedGroupsWrong : ChangeSpec := { name := "fnPoppathsNestedGroups", fn := fun _ => fun
  | [d1, d2, d3, d4] => { results := [.lit (.bool false)], args := [d1, d2, d3, d4] }
  | _ => none }
def FnPoppathsNestedGroupsWrongFalsely : Prop := fnPoppathsNestedGroupsRow.holds Try.pinned (OpenSpec.ofChange fnPoppathsNestedGroupsWrong)

/- THE SECOND FORM. 'bulk': how many values and letters a reading holds, each counted each time it is reached (what is shared counts as often as it is met; a slice's spare places count too). A statement '..UptoSaid' is the law's where the arguments, and the package variables that the reading takes, are together of bulk at most 1048576: NARROWER than '..Said'. Prove '..Said' where nothing that the law and all that it calls make is longer than what came in: it says more and counts as full. Else prove '..UptoSaid'. A law counts once. -/
mutual
def uptoBulk {H : Type} : DataW H → Nat
  | .lit (.string bytes) => bytes.length + 1
  | .lit _ => 1
  | .nil => 1
  | .ptr d => uptoBulk d + 1
  | .slice elems spare => uptoBulkAll elems + uptoBulkAll spare + 1
  | .agg parts => uptoBulkAll parts + 1
  | .iface _ d => uptoBulk d + 1
  | .map entries => uptoBulkEntries entries + 1
  | .held _ => 1
def uptoBulkAll {H : Type} : List (DataW H) → Nat
  | [] => 0
  | d :: r => uptoBulk d + uptoBulkAll r
def uptoBulkEntries {H : Type} : List (Lit × DataW H) → Nat
  | [] => 0
  | x :: r => uptoBulkEntry x + uptoBulkEntries r
def uptoBulkEntry {H : Type} : Lit × DataW H → Nat
  | (.string bytes, d) => bytes.length + uptoBulk d + 1
  | (_, d) => uptoBulk d + 1
 end
def uptoSmall : (H : Type) → List (DataW H) → Bool := fun _ ds => decide (uptoBulkAll ds ≤ 1048576)
def OpenSpec.upto (s : _root_.Go.ChangeSpec) : _root_.Go.OpenSpec := { _root_.Go.OpenSpec.ofChange s with cond := some uptoSmall }

/-- 'n001_93.FnPoppathsReturnsPushedInOrder', WHERE WHAT IT READS IS OF BULK AT MOST 1048576: true; the input reads as it did. -/
def fnPoppathsReturnsPushedInOrderUptoRow : OpenClaim := { program := "ytbfkcnknaemccaa", sum := "aa6433da888426746cf7376a2e0f588842e216f232825a7e613841e2a0f3237b", func := "github.com/itchyny/gojq/n001_93.FnPoppathsReturnsPushedInOrder", spec := "fnPoppathsReturnsPushedInOrder", apart := false, narrowed := true }
def FnPoppathsReturnsPushedInOrderUptoSaid : Prop := fnPoppathsReturnsPushedInOrderUptoRow.holds Try.pinned (OpenSpec.upto fnPoppathsReturnsPushedInOrderSpec)

/-- 'n001_93.FnPoppathsNestedGroups', WHERE WHAT IT READS IS OF BULK AT MOST 1048576: true; the input reads as it did. -/
def fnPoppathsNestedGroupsUptoRow : OpenClaim := { program := "ytbfkcnknaemccaa", sum := "aa6433da888426746cf7376a2e0f588842e216f232825a7e613841e2a0f3237b", func := "github.com/itchyny/gojq/n001_93.FnPoppathsNestedGroups", spec := "fnPoppathsNestedGroups", apart := false, narrowed := true }
def FnPoppathsNestedGroupsUptoSaid : Prop := fnPoppathsNestedGroupsUptoRow.holds Try.pinned (OpenSpec.upto fnPoppathsNestedGroupsSpec)

end Rows
end Go.Proofs.Ytbfkcnknaemccaa

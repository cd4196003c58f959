/-
  No cell of these rows narrows 'for every input' (looked for: loops, veiled, ifaces, maps, wideKeys, modest, calm, conditions, laid).
  DERIVED. THE GIVEN ROWS OF THIS SEAT. 4 by the template 'for every input the law returns true; each argument reads behind the call as it read before'; 0 by the template 'total and deterministic' (their statements: YtdmncgddpfkjkaaTotals.lean).
  GIVEN WITH THE SEED: the statements are not yours to turn. If you find one false, say at which input.
  Laid BY PROGRAM, IN A SANDBOX (cutbox-rows.mjs): the forced cells as the released guide's own fill.sh prints them over the translation 2f97ce1f5e6bed49… (all of the seat's roots in one cut). By AI agents, Wed Nov 11 2026. No macro, syntax, notation, axiom, sorry.
-/
import Derived.Test.YtdmncgddpfkjkaaChecked
import GoSem.Claim
import GoSem.ClaimJoined
import GoSem.ClaimMapViews
import Derived.JoinedTies
import Derived.KernelRfl
namespace Go.Proofs.Ytdmncgddpfkjkaa
/- THE CELL 'sum', in the pinned program and in every row, IS THE sha256 OF THE DUMP (.gsa) THAT YtdmncgddpfkjkaaProg.lean LOADS. Nothing in Lean hashes anything: it is a label: what it is worth is what the hold of that sum in a sandbox is worth. -/
noncomputable def Try.pinned : Pinned := { name := "ytdmncgddpfkjkaa", sum := "2f97ce1f5e6bed49c063d458c1e5c287c6a1de78cfd3d8b84f21e369af65275c", checked := Try.checked }
namespace Rows
def none {H : Type} : Left H := { results := [], args := [] }

/-- 'n001_82.FnEndsWithExact': WHATEVER THE INPUT: true; the input reads as it did. -/
def fnEndsWithExactSpec : ChangeSpec := { name := "fnEndsWithExact", fn := fun _ => fun
  | [d1, d2, d3] => { results := [.lit (.bool true)], args := [d1, d2, d3] }
  | _ => none }
def fnEndsWithExactRow : OpenClaim := { program := "ytdmncgddpfkjkaa", sum := "2f97ce1f5e6bed49c063d458c1e5c287c6a1de78cfd3d8b84f21e369af65275c", func := "github.com/itchyny/gojq/n001_82.FnEndsWithExact", spec := "fnEndsWithExact", apart := false }
def FnEndsWithExactSaid : Prop := fnEndsWithExactRow.holds Try.pinned (OpenSpec.ofChange fnEndsWithExactSpec)

/-- ITS FALSE NEIGHBOUR: 'it returns false'. Refute it at one input. -/
def fnEndsWithExactWrong : ChangeSpec := { name := "fnEndsWithExact", fn := fun _ => fun
  | [d1, d2, d3] => { results := [.lit (.bool false)], args := [d1, d2, d3] }
  | _ => none }
def FnEndsWithExactWrongFalsely : Prop := fnEndsWithExactRow.holds Try.pinned (OpenSpec.ofChange fnEndsWithExactWrong)

/-- 'n001_82.FnStartsWithExact': WHATEVER THE INPUT: true; the input reads as it did. -/
def fnStartsWithExactSpec : ChangeSpec := { name := "fnStartsWithExact", fn := fun _ => fun
  | [d1, d2, d3] => { results := [.lit (.bool true)], args := [d1, d2, d3] }
  | _ => none }
def fnStartsWithExactRow : OpenClaim := { program := "ytdmncgddpfkjkaa", sum := "2f97ce1f5e6bed49c063d458c1e5c287c6a1de78cfd3d8b84f21e369af65275c", func := "github.com/itchyny/gojq/n001_82.FnStartsWithExact", spec := "fnStartsWithExact", apart := false }
def FnStartsWithExactSaid : Prop := fnStartsWithExactRow.holds Try.pinned (OpenSpec.ofChange fnStartsWithExactSpec)

/-- ITS FALSE NEIGHBOUR: 'it returns false'. Refute it at one input. -/
def fnStartsWithExactWrong : ChangeSpec := { name := "fnStartsWithExact", fn := fun _ => fun
  | [d1, d2, d3] => { results := [.lit (.bool false)], args := [d1, d2, d3] }
  | _ => none }
def FnStartsWithExactWrongFalsely : Prop := fnStartsWithExactRow.holds Try.pinned (OpenSpec.ofChange fnStartsWithExactWrong)

/-- 'n001_82.FnStartsEndsMirror': WHATEVER THE INPUT: true; the input reads as it did. -/
def fnStartsEndsMirrorSpec : ChangeSpec := { name := "fnStartsEndsMirror", fn := fun _ => fun
  | [d1, d2] => { results := [.lit (.bool true)], args := [d1, d2] }
  | _ => none }
def fnStartsEndsMirrorRow : OpenClaim := { program := "ytdmncgddpfkjkaa", sum := "2f97ce1f5e6bed49c063d458c1e5c287c6a1de78cfd3d8b84f21e369af65275c", func := "github.com/itchyny/gojq/n001_82.FnStartsEndsMirror", spec := "fnStartsEndsMirror", apart := false }
def FnStartsEndsMirrorSaid : Prop := fnStartsEndsMirrorRow.holds Try.pinned (OpenSpec.ofChange fnStartsEndsMirrorSpec)

/-- ITS FALSE NEIGHBOUR: 'it returns false'. Refute it at one input. -/
def fnStartsEndsMirrorWrong : ChangeSpec := { name := "fnStartsEndsMirror", fn := fun _ => fun
  | [d1, d2] => { results := [.lit (.bool false)], args := [d1, d2] }
  | _ => none }
def FnStartsEndsMirrorWrongFalsely : Prop := fnStartsEndsMirrorRow.holds Try.pinned (OpenSpec.ofChange fnStartsEndsMirrorWrong)

/-- 'n001_82.FnEndsWithTransitiveConcat': WHATEVER THE INPUT: true; the input reads as it did. -/
def fnEndsWithTransitiveConcatSpec : ChangeSpec := { name := "fnEndsWithTransitiveConcat", fn := fun _ => fun
  | [d1, d2, d3] => { results := [.lit (.bool true)], args := [d1, d2, d3] }
  | _ => none }
def fnEndsWithTransitiveConcatRow : OpenClaim := { program := "ytdmncgddpfkjkaa", sum := "2f97ce1f5e6bed49c063d458c1e5c287c6a1de78cfd3d8b84f21e369af65275c", func := "github.com/itchyny/gojq/n001_82.FnEndsWithTransitiveConcat", spec := "fnEndsWithTransitiveConcat", apart := false }
def FnEndsWithTransitiveConcatSaid : Prop := fnEndsWithTransitiveConcatRow.holds Try.pinned (OpenSpec.ofChange fnEndsWithTransitiveConcatSpec)

/-- ITS FALSE NEIGHBOUR: 'it returns false'. Refute it at one input. -/
def fnEndsWithTransitiveConcatWrong : ChangeSpec := { name := "fnEndsWithTransitiveConcat", fn := fun _ => fun
  | [d1, d2, d3] => { results := [.lit (.bool false)], args := [d1, d2, d3] }
  | _ => none }
def FnEndsWithTransitiveConcatWrongFalsely : Prop := fnEndsWithTransitiveConcatRow.holds Try.pinned (OpenSpec.ofChange fnEndsWithTransitiveConcatWrong)

/- THE SECOND FORM. 'bulk': how many values and letters a reading holds, each counted each time it is reached (what is shared counts as often as it is met; a slice's spare places count too). A statement '..UptoSaid' is the law's where the arguments, and the package variables that the reading takes, are together of bulk at most 1048576: NARROWER than '..Said'. Prove '..Said' where nothing that the law and all that it calls make is longer than what came in: it says more and counts as full. Else prove '..UptoSaid'. A law counts once. -/
mutual
def uptoBulk {H : Type} : DataW H → Nat
  | .lit (.string bytes) => bytes.length + 1
  | .lit _ => 1
  | .nil => 1
  | .ptr d => uptoBulk d + 1
  | .slice elems spare => uptoBulkAll elems + uptoBulkAll spare + 1
  | .agg parts => uptoBulkAll parts + 1
  | .iface _ d => uptoBulk d + 1
  | .map entries => uptoBulkEntries entries + 1
  | .held _ => 1
def uptoBulkAll {H : Type} : List (DataW H) → Nat
  | [] => 0
  | d :: r => uptoBulk d + uptoBulkAll r
def uptoBulkEntries {H : Type} : List (Lit × DataW H) → Nat
  | [] => 0
  | x :: r => uptoBulkEntry x + uptoBulkEntries r
def uptoBulkEntry {H : Type} : Lit × DataW H → Nat
  | (.string bytes, d) => bytes.length + uptoBulk d + 1
  | (_, d) => uptoBulk d + 1
 end
def uptoSmall : (H : Type) → List (DataW H) → Bool := fun _ ds => decide (uptoBulkAll ds ≤ 1048576)
def OpenSpec.upto (s : _root_.Go.ChangeSpec) : _root_.Go.OpenSpec := { _root_.Go.OpenSpec.ofChange s with cond := some uptoSmall }

/-- 'n001_82.FnEndsWithExact', WHERE WHAT IT READS IS OF BULK AT MOST 1048576: true; the input reads as it did. -/
def fnEndsWithExactUptoRow : OpenClaim := { program := "ytdmncgddpfkjkaa", sum := "2f97ce1f5e6bed49c063d458c1e5c287c6a1de78cfd3d8b84f21e369af65275c", func := "github.com/itchyny/gojq/n001_82.FnEndsWithExact", spec := "fnEndsWithExact", apart := false, narrowed := true }
def FnEndsWithExactUptoSaid : Prop := fnEndsWithExactUptoRow.holds Try.pinned (OpenSpec.upto fnEndsWithExactSpec)

/-- 'n001_82.FnStartsWithExact', WHERE WHAT IT READS IS OF BULK AT MOST 1048576: true; the input reads as it did. -/
def fnStartsWithExactUptoRow : OpenClaim := { program := "ytdmncgddpfkjkaa", sum := "2f97ce1f5e6bed49c063d458c1e5c287c6a1de78cfd3d8b84f21e369af65275c", func := "github.com/itchyny/gojq/n001_82.FnStartsWithExact", spec := "fnStartsWithExact", apart := false, narrowed := true }
def FnStartsWithExactUptoSaid : Prop := fnStartsWithExactUptoRow.holds Try.pinned (OpenSpec.upto fnStartsWithExactSpec)

/-- 'n001_82.FnStartsEndsMirror', WHERE WHAT IT READS IS OF BULK AT MOST 1048576: true; the input reads as it did. -/
def fnStartsEndsMirrorUptoRow : OpenClaim := { program := "ytdmncgddpfkjkaa", sum := "2f97ce1f5e6bed49c063d458c1e5c287c6a1de78cfd3d8b84f21e369af65275c", func := "github.com/itchyny/gojq/n001_82.FnStartsEndsMirror", spec := "fnStartsEndsMirror", apart := false, narrowed := true }
def FnStartsEndsMirrorUptoSaid : Prop := fnStartsEndsMirrorUptoRow.holds Try.pinned (OpenSpec.upto fnStartsEndsMirrorSpec)

/-- 'n001_82.FnEndsWithTransitiveConcat', WHERE WHAT IT READS IS OF BULK AT MOST 1048576: true; the input reads as it did. -/
def fnEndsWithTransitiveConcatUptoRow : OpenClaim := { program := "ytdmncgddpfkjkaa", sum := "2f97ce1f5e6bed49c063d458c1e5c287c6a1de78cfd3d8b84f21e369af65275c", func := "github.com/itchyny/gojq/n001_82.FnEndsWithTransitiveConcat", spec := "fnEndsWithTransitiveConcat", apart := false, narrowed := true }
def FnEndsWithTransitiveConcatUptoSaid : Prop := fnEndsWithTransitiveConcatUptoRow.holds Try.pinned (OpenSpec.upto fnEndsWithTransitiveConcatSpec)

end Rows
end Go.Proofs.Ytdmncgddpfkjkaa

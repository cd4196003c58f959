/-
  No cell of these rows narrows 'for every input' (looked for: loops, veiled, ifaces, maps, wideKeys, modest, calm, conditions, laid).
  DERIVED. THE GIVEN ROWS OF THIS SEAT. 4 by the template 'for every input the law returns true; each argument reads behind the call as it read before'; 0 by the template 'total and deterministic' (their statements: YtnbfphjkpicajaaTotals.lean).
  GIVEN WITH THE SEED: the statements are not yours to turn. If you find one false, say at which input.
  Laid BY PROGRAM, IN A SANDBOX (cutbox-rows.mjs): the forced cells as the released guide's own fill.sh prints them over the translation 132a7a904d6264b6… (all of the seat's roots in one cut). By AI agents, Wed Nov 11 2026. No macro, syntax, notation, axiom, sorry.
-/
import Derived.Test.YtnbfphjkpicajaaChecked
import GoSem.Claim
import GoSem.ClaimJoined
import GoSem.ClaimMapViews
import Derived.JoinedTies
import Derived.KernelRfl
namespace Go.Proofs.Ytnbfphjkpicajaa
/- THE CELL 'sum', in the pinned program and in every row, IS THE sha256 OF THE DUMP (.gsa) THAT YtnbfphjkpicajaaProg.lean LOADS. Nothing in Lean hashes anything: it is a label: what it is worth is what the hold of that sum in a sandbox is worth. -/
noncomputable def Try.pinned : Pinned := { name := "ytnbfphjkpicajaa", sum := "132a7a904d6264b6ab7d6bb003634e70f4280155cd58de5a31bca88944acb292", checked := Try.checked }
namespace Rows
def none {H : Type} : Left H := { results := [], args := [] }

/-- 'n001_95.FnLtrimstrRoundTrip': WHATEVER THE INPUT: true; the input reads as it did. -/
def fnLtrimstrRoundTripSpec : ChangeSpec := { name := "fnLtrimstrRoundTrip", fn := fun _ => fun
  | [d1, d2] => { results := [.lit (.bool true)], args := [d1, d2] }
  | _ => none }
def fnLtrimstrRoundTripRow : OpenClaim := { program := "ytnbfphjkpicajaa", sum := "132a7a904d6264b6ab7d6bb003634e70f4280155cd58de5a31bca88944acb292", func := "github.com/itchyny/gojq/n001_95.FnLtrimstrRoundTrip", spec := "fnLtrimstrRoundTrip", apart := false }
def FnLtrimstrRoundTripSaid : Prop := fnLtrimstrRoundTripRow.holds Try.pinned (OpenSpec.ofChange fnLtrimstrRoundTripSpec)

/-- ITS FALSE NEIGHBOUR: 'it returns false'. Refute it at one input. -/
def fnLtrimstrRoundTripWrong : ChangeSpec := { name := "fnLtrimstrRoundTrip", fn := fun _ => fun
  | [d1, d2] => { results := [.lit (.bool false)], args := [d1, d2] }
  | _ => none }
def FnLtrimstrRoundTripWrongFalsely : Prop := fnLtrimstrRoundTripRow.holds Try.pinned (OpenSpec.ofChange fnLtrimstrRoundTripWrong)

/-- 'n001_95.FnRtrimstrRoundTrip': WHATEVER THE INPUT: true; the input reads as it did. -/
def fnRtrimstrRoundTripSpec : ChangeSpec := { name := "fnRtrimstrRoundTrip", fn := fun _ => fun
  | [d1, d2] => { results := [.lit (.bool true)], args := [d1, d2] }
  | _ => none }
def fnRtrimstrRoundTripRow : OpenClaim := { program := "ytnbfphjkpicajaa", sum := "132a7a904d6264b6ab7d6bb003634e70f4280155cd58de5a31bca88944acb292", func := "github.com/itchyny/gojq/n001_95.FnRtrimstrRoundTrip", spec := "fnRtrimstrRoundTrip", apart := false }
def FnRtrimstrRoundTripSaid : Prop := fnRtrimstrRoundTripRow.holds Try.pinned (OpenSpec.ofChange fnRtrimstrRoundTripSpec)

/-- ITS FALSE NEIGHBOUR: 'it returns false'. Refute it at one input. -/
def fnRtrimstrRoundTripWrong : ChangeSpec := { name := "fnRtrimstrRoundTrip", fn := fun _ => fun
  | [d1, d2] => { results := [.lit (.bool false)], args := [d1, d2] }
  | _ => none }
def FnRtrimstrRoundTripWrongFalsely : Prop := fnRtrimstrRoundTripRow.holds Try.pinned (OpenSpec.ofChange fnRtrimstrRoundTripWrong)

/-- 'n001_95.FnTrimstrRoundTrip': WHATEVER THE INPUT: true; the input reads as it did. -/
def fnTrimstrRoundTripSpec : ChangeSpec := { name := "fnTrimstrRoundTrip", fn := fun _ => fun
  | [d1, d2] => { results := [.lit (.bool true)], args := [d1, d2] }
  | _ => none }
def fnTrimstrRoundTripRow : OpenClaim := { program := "ytnbfphjkpicajaa", sum := "132a7a904d6264b6ab7d6bb003634e70f4280155cd58de5a31bca88944acb292", func := "github.com/itchyny/gojq/n001_95.FnTrimstrRoundTrip", spec := "fnTrimstrRoundTrip", apart := false }
def FnTrimstrRoundTripSaid : Prop := fnTrimstrRoundTripRow.holds Try.pinned (OpenSpec.ofChange fnTrimstrRoundTripSpec)

/-- ITS FALSE NEIGHBOUR: 'it returns false'. Refute it at one input. -/
def fnTrimstrRoundTripWrong : ChangeSpec := { name := "fnTrimstrRoundTrip", fn := fun _ => fun
  | [d1, d2] => { results := [.lit (.bool false)], args := [d1, d2] }
  | _ => none }
def FnTrimstrRoundTripWrongFalsely : Prop := fnTrimstrRoundTripRow.holds Try.pinned (OpenSpec.ofChange fnTrimstrRoundTripWrong)

/-- 'n001_95.FnTrimstrExact': WHATEVER THE INPUT: true; the input reads as it did. -/
def fnTrimstrExactSpec : ChangeSpec := { name := "fnTrimstrExact", fn := fun _ => fun
  | [d1, d2, d3] => { results := [.lit (.bool true)], args := [d1, d2, d3] }
  | _ => none }
def fnTrimstrExactRow : OpenClaim := { program := "ytnbfphjkpicajaa", sum := "132a7a904d6264b6ab7d6bb003634e70f4280155cd58de5a31bca88944acb292", func := "github.com/itchyny/gojq/n001_95.FnTrimstrExact", spec := "fnTrimstrExact", apart := false }
def FnTrimstrExactSaid : Prop := fnTrimstrExactRow.holds Try.pinned (OpenSpec.ofChange fnTrimstrExactSpec)

/-- ITS FALSE NEIGHBOUR: 'it returns false'. Refute it at one input. -/
def fnTrimstrExactWrong : ChangeSpec := { name := "fnTrimstrExact", fn := fun _ => fun
  | [d1, d2, d3] => { results := [.lit (.bool false)], args := [d1, d2, d3] }
  | _ => none }
def FnTrimstrExactWrongFalsely : Prop := fnTrimstrExactRow.holds Try.pinned (OpenSpec.ofChange fnTrimstrExactWrong)

/- THE SECOND FORM. 'bulk': how many values and letters a reading holds, each counted each time it is reached (what is shared counts as often as it is met; a slice's spare places count too). A statement '..UptoSaid' is the law's where the arguments, and the package variables that the reading takes, are together of bulk at most 1048576: NARROWER than '..Said'. Prove '..Said' where nothing that the law and all that it calls make is longer than what came in: it says more and counts as full. Else prove '..UptoSaid'. A law counts once. -/
mutual
def uptoBulk {H : Type} : DataW H → Nat
  | .lit (.string bytes) => bytes.length + 1
  | .lit _ => 1
  | .nil => 1
  | .ptr d => uptoBulk d + 1
  | .slice elems spare => uptoBulkAll elems + uptoBulkAll spare + 1
  | .agg parts => uptoBulkAll parts + 1
  | .iface _ d => uptoBulk d + 1
  | .map entries => uptoBulkEntries entries + 1
  | .held _ => 1
def uptoBulkAll {H : Type} : List (DataW H) → Nat
  | [] => 0
  | d :: r => uptoBulk d + uptoBulkAll r
def uptoBulkEntries {H : Type} : List (Lit × DataW H) → Nat
  | [] => 0
  | x :: r => uptoBulkEntry x + uptoBulkEntries r
def uptoBulkEntry {H : Type} : Lit × DataW H → Nat
  | (.string bytes, d) => bytes.length + uptoBulk d + 1
  | (_, d) => uptoBulk d + 1
 end
def uptoSmall : (H : Type) → List (DataW H) → Bool := fun _ ds => decide (uptoBulkAll ds ≤ 1048576)
def OpenSpec.upto (s : _root_.Go.ChangeSpec) : _root_.Go.OpenSpec := { _root_.Go.OpenSpec.ofChange s with cond := some uptoSmall }

/-- 'n001_95.FnLtrimstrRoundTrip', WHERE WHAT IT READS IS OF BULK AT MOST 1048576: true; the input reads as it did. -/
def fnLtrimstrRoundTripUptoRow : OpenClaim := { program := "ytnbfphjkpicajaa", sum := "132a7a904d6264b6ab7d6bb003634e70f4280155cd58de5a31bca88944acb292", func := "github.com/itchyny/gojq/n001_95.FnLtrimstrRoundTrip", spec := "fnLtrimstrRoundTrip", apart := false, narrowed := true }
def FnLtrimstrRoundTripUptoSaid : Prop := fnLtrimstrRoundTripUptoRow.holds Try.pinned (OpenSpec.upto fnLtrimstrRoundTripSpec)

/-- 'n001_95.FnRtrimstrRoundTrip', WHERE WHAT IT READS IS OF BULK AT MOST 1048576: true; the input reads as it did. -/
def fnRtrimstrRoundTripUptoRow : OpenClaim := { program := "ytnbfphjkpicajaa", sum := "132a7a904d6264b6ab7d6bb003634e70f4280155cd58de5a31bca88944acb292", func := "github.com/itchyny/gojq/n001_95.FnRtrimstrRoundTrip", spec := "fnRtrimstrRoundTrip", apart := false, narrowed := true }
def FnRtrimstrRoundTripUptoSaid : Prop := fnRtrimstrRoundTripUptoRow.holds Try.pinned (OpenSpec.upto fnRtrimstrRoundTripSpec)

/-- 'n001_95.FnTrimstrRoundTrip', WHERE WHAT IT READS IS OF BULK AT MOST 1048576: true; the input reads as it did. -/
def fnTrimstrRoundTripUptoRow : OpenClaim := { program := "ytnbfphjkpicajaa", sum := "132a7a904d6264b6ab7d6bb003634e70f4280155cd58de5a31bca88944acb292", func := "github.com/itchyny/gojq/n001_95.FnTrimstrRoundTrip", spec := "fnTrimstrRoundTrip", apart := false, narrowed := true }
def FnTrimstrRoundTripUptoSaid : Prop := fnTrimstrRoundTripUptoRow.holds Try.pinned (OpenSpec.upto fnTrimstrRoundTripSpec)

/-- 'n001_95.FnTrimstrExact', WHERE WHAT IT READS IS OF BULK AT MOST 1048576: true; the input reads as it did. -/
def fnTrimstrExactUptoRow : OpenClaim := { program := "ytnbfphjkpicajaa", sum := "132a7a904d6264b6ab7d6bb003634e70f4280155cd58de5a31bca88944acb292", func := "github.com/itchyny/gojq/n001_95.FnTrimstrExact", spec := "fnTrimstrExact", apart := false, narrowed := true }
def FnTrimstrExactUptoSaid : Prop := fnTrimstrExactUptoRow.holds Try.pinned (OpenSpec.upto fnTrimstrExactSpec)

end Rows
end Go.Proofs.Ytnbfphjkpicajaa

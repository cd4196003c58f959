/-
  Plain text of the printer (n001_84): queries of four kinds (number, field, binary operator, array), what the printer makes of the text so far; suffixes.
-/
import Derived.WalkKit
namespace Go.Proofs.YtebcjlgeppebgaaDoor
set_option linter.unusedVariables false
/-- Does the text so far end in '.' or a digit? -/
def sp (acc : List UInt8) : Bool := match acc.getLast? with
  | some c => c == 46 || (48 ≤ c && c ≤ 57)
  | none => false
def prIdx (nm : ByteArray) (acc : List UInt8) : List UInt8 := (if sp acc then acc ++ [32] else acc) ++ [46] ++ nm.data.toList
inductive Qy where
  | num (t : ByteArray)
  | idx (nm : ByteArray)
  | bin (comma : Bool) (l r : Qy)
  | arr (q : Qy)
def opNum (comma : Bool) : Int := if comma then 2 else 1
def opText (comma : Bool) : List UInt8 := if comma then [44] else [124]
def prQ : Qy → List UInt8 → List UInt8
  | .num t, acc => acc ++ t.data.toList
  | .idx nm, acc => prIdx nm acc
  | .bin c l r, acc => prQ r ((if c then prQ l acc else prQ l acc ++ [32]) ++ opText c ++ [32])
  | .arr q, acc => prQ q (acc ++ [91]) ++ [93]
theorem prIdx_le (nm : ByteArray) (acc : List UInt8) : acc.length + 1 + nm.size ≤ (prIdx nm acc).length := by
  unfold prIdx
  have : nm.data.toList.length = nm.size := rfl
  split <;> simp [this] <;> omega
theorem prQ_le : ∀ (q : Qy) (acc : List UInt8), acc.length ≤ (prQ q acc).length
  | .num t, acc => by simp [prQ]
  | .idx nm, acc => by have := prIdx_le nm acc; unfold prQ; omega
  | .bin c l r, acc => by
    have h1 := prQ_le l acc
    have h2 := prQ_le r ((if c then prQ l acc else prQ l acc ++ [32]) ++ opText c ++ [32])
    unfold prQ
    refine Nat.le_trans ?_ h2
    split <;> simp <;> omega
  | .arr q, acc => by
    have h1 := prQ_le q (acc ++ [91])
    simp only [List.length_append, List.length_singleton] at h1
    simp only [prQ, List.length_append, List.length_singleton]
    omega
def prArr (o : Option Qy) (acc : List UInt8) : List UInt8 := (match o with | none => acc ++ [91] | some q => prQ q (acc ++ [91])) ++ [93]
theorem prArr_some (q : Qy) (acc : List UInt8) : prArr (some q) acc = prQ (.arr q) acc := rfl
theorem prArr_le (o : Option Qy) (acc : List UInt8) : acc.length + 2 ≤ (prArr o acc).length := by
  cases o with
  | none => simp [prArr]
  | some q =>
    have := prQ_le q (acc ++ [91])
    simp only [List.length_append, List.length_singleton] at this
    simp only [prArr, List.length_append, List.length_singleton]
    omega
/-- A suffix as the laws describe it. -/
structure Suf where
  hasIndex : Bool
  name : ByteArray
  isSlice : Bool
  hasStart : Bool
  start : ByteArray
  hasEnd : Bool
  stop : ByteArray
  iter : Bool
  opt : Bool
def Suf.refused (x : Suf) : Bool := x.hasIndex && x.name.toList.isEmpty && !x.isSlice && !x.hasStart
/-- The spelling, without the space ahead. -/
def Suf.text (x : Suf) : List UInt8 :=
  if x.hasIndex then
    if x.name.toList.isEmpty then
      if x.isSlice then [91] ++ (if x.hasStart then x.start.data.toList else []) ++ [58] ++ (if x.hasEnd then x.stop.data.toList else []) ++ [93]
      else [91] ++ x.start.data.toList ++ [93]
    else [46] ++ x.name.data.toList
  else if x.iter then [91, 93]
  else if x.opt then [63]
  else []
def Suf.space (x : Suf) (acc : List UInt8) : Bool := x.hasIndex && !x.name.toList.isEmpty && sp acc
def prSuf (x : Suf) (acc : List UInt8) : List UInt8 := (if x.space acc then acc ++ [32] else acc) ++ x.text
def nest (t : ByteArray) : Nat → Qy
  | 0 => .num t
  | k + 1 => .arr (nest t k)
theorem prQ_nest (t : ByteArray) : ∀ (k : Nat) (acc : List UInt8), prQ (nest t k) acc = acc ++ List.replicate k 91 ++ t.data.toList ++ List.replicate k 93
  | 0, acc => by simp [nest, prQ]
  | k + 1, acc => by
    rw [nest, prQ, prQ_nest t k, List.replicate_succ, List.replicate_succ']
    simp
theorem prArr_nest (t : ByteArray) (k : Nat) : prArr (some (nest t k)) [] = List.replicate (k + 1) 91 ++ t.data.toList ++ List.replicate (k + 1) 93 := by
  show prQ (nest t k) ([] ++ [91]) ++ [93] = _
  rw [prQ_nest, List.replicate_succ, List.replicate_succ']
  simp
end Go.Proofs.YtebcjlgeppebgaaDoor

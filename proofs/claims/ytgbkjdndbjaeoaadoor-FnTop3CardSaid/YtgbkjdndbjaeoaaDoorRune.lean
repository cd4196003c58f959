/-
  utf8.AppendRune at an ASCII rune and at U+FFFD, over the call's own bytes; the reader's zHex at the digits that the escaper writes (n001_1001).
-/
import Derived.Test.YtgbkjdndbjaeoaaDoorRef
namespace Go.Proofs.YtgbkjdndbjaeoaaDoor
set_option linter.unusedVariables false
open Go.ChangeShapes Go.WideShapes Go.ChangeAt Go.RowKit M
theorem appA (w w0 : World) (A : Option Addr) (n c : Nat) (d : Option Nat) (l : List UInt8) (x : UInt8) (r : Int) (hr : r = x.toNat) (hx : x.toNat < 128) (h : OwnB w w0.heap.size (.slice A n c) d l) (hb : Below w0.heap.size w0 w) (hl : l.length ≤ 8796093022208) :
    Calls Tryd.prog 33 #[.slice A n c, .int .i32 r] w fun e w' => ∃ v', e = .returned v' ∧ BN w0 (l ++ [x]) v' w' := by
  subst hr
  have H := Lib.hid h
  have HB := Lib.hid hb
  have hz := hb.size
  clear h hb
  go_enter Tryd.func33, Tryd.ntmps33
  go_wp2_with (at_builtin; refine wp_bytes rfl _ _ rfl w _ _ rfl w0.heap.size (.slice A n c) d l (by rfl) H.out [x] _ (by rfl) (by rfl) 1 (by rfl) (by rfl) (by simp; omega) (by simp) (by simp) hz ?_)
  intro v3 w3 ho
  have HBN3 := Lib.hid (ho.partsN rfl (fun g hg => (H.out.lt g hg).1) HB.out)
  clear ho
  go_wp2_with fail
  go_ret
  exact ⟨_, rfl, HBN3.out⟩
set_option maxRecDepth 100000 in
theorem appN (w w0 : World) (A : Option Addr) (n c : Nat) (d : Option Nat) (l : List UInt8) (h : OwnB w w0.heap.size (.slice A n c) d l) (hb : Below w0.heap.size w0 w) (hl : l.length ≤ 8796093022208) :
    Calls Tryd.prog 37 #[.slice A n c, .int .i32 65533] w fun e w' => ∃ v', e = .returned v' ∧ BN w0 (l ++ [239, 191, 189]) v' w' := by
  have H := Lib.hid h
  have HB := Lib.hid hb
  have hz := hb.size
  have b1 : bits BinOp.or IntKind.u8 224 15 = 239 := by kernel_rfl
  have b2 : bits BinOp.and IntKind.u8 255 63 = 63 := by kernel_rfl
  have b3 : bits BinOp.or IntKind.u8 128 63 = 191 := by kernel_rfl
  have b4 : bits BinOp.and IntKind.u8 253 63 = 61 := by kernel_rfl
  have b5 : bits BinOp.or IntKind.u8 128 61 = 189 := by kernel_rfl
  clear h hb
  go_enter Tryd.func37, Tryd.ntmps37
  go_wp2_with (at_builtin; refine wp_bytes rfl _ _ rfl w _ _ rfl w0.heap.size (.slice A n c) d l (by rfl) H.out [239, 191, 189] _ (by rfl) (by rfl) 3 (by rfl) (by rfl) (by simp; omega) (by simp) (by simp) hz ?_)
  intro v3 w3 ho
  have HBN3 := Lib.hid (ho.partsN rfl (fun g hg => (H.out.lt g hg).1) HB.out)
  clear ho
  go_wp2_with fail
  go_ret
  exact ⟨_, rfl, HBN3.out⟩
theorem appF (w w0 : World) (A : Option Addr) (n c : Nat) (d : Option Nat) (l : List UInt8) (h : OwnB w w0.heap.size (.slice A n c) d l) (hb : Below w0.heap.size w0 w) (hl : l.length ≤ 8796093022208) :
    Calls Tryd.prog 33 #[.slice A n c, .int .i32 65533] w fun e w' => ∃ v', e = .returned v' ∧ BN w0 (l ++ [239, 191, 189]) v' w' := by
  have H := Lib.hid h
  have HB := Lib.hid hb
  clear h hb
  go_enter Tryd.func33, Tryd.ntmps33
  go_wp2_with fail
  refine (appN w w0 A n c d l H.out HB.out hl).mono ?_
  rintro e w1 ⟨v', rfl, h1⟩
  have H1 := Lib.hid h1
  clear h1
  go_wp2_with fail
  go_ret
  exact ⟨_, rfl, H1.out⟩
/-- The digit's worth. -/
theorem zhexC (d : Nat) (hd : d < 16) (x : UInt8) (hx : x.toNat = hexOf d) (w : World) : Calls Tryd.prog 32 #[.int .u8 x.toNat] w fun e w' => e = .returned (.int .i64 d) ∧ w' = w := by
  rw [hx]
  by_cases h : d < 10
  · have e : hexOf d = 48 + d := by unfold hexOf; rw [if_pos h]
    rw [e]
    go_enter Tryd.func32, Tryd.ntmps32
    go_wp2_with fail
    go_ret
    refine ⟨?_, rfl⟩
    congr 2
    first | omega | (simp; omega) | simp
  · have e : hexOf d = 87 + d := by unfold hexOf; rw [if_neg h]
    rw [e]
    go_enter Tryd.func32, Tryd.ntmps32
    go_wp2_with fail
    go_ret
    refine ⟨?_, rfl⟩
    congr 2
    first | omega | (simp; omega) | simp
end Go.Proofs.YtgbkjdndbjaeoaaDoor

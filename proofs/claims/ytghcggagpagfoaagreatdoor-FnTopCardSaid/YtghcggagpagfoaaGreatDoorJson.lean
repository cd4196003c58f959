/-
  jsonEncodeString into a builder that already holds p (n001_1001).
-/
import Derived.Test.YtghcggagpagfoaaGreatDoorEncB
import Derived.Test.YtghcggagpagfoaaGreatDoorArgs
namespace Go.Proofs.YtghcggagpagfoaaGreatDoor
set_option linter.unusedVariables false
open Go.ChangeShapes Go.WideShapes Go.ChangeAt Go.RowKit M
theorem tabs_size {w : World} (h : Lib.Utf8Tabs 2 3 w) : 4 ≤ w.heap.size := by
  have h1 := (h.2 0 (by decide)).1
  rcases Nat.lt_or_ge 3 w.heap.size with h' | h'
  · exact h'
  · simp [World.cell?, Array.getElem?_eq_none h'] at h1
theorem zeroEnc (w : World) : (zeroValue 170).run Tryz.prog w = .ok (.agg #[.nilIface, .int .u8 0, .int .u8 0, .int .u8 0, .int .u8 0, .int .u8 0, .int .u8 0, .int .u8 0, .int .u8 0, .int .u8 0, .int .u8 0, .int .u8 0, .int .u8 0, .int .u8 0, .int .u8 0, .int .u8 0, .int .u8 0, .int .u8 0, .int .u8 0, .int .u8 0, .int .u8 0, .int .u8 0, .int .u8 0, .int .u8 0, .int .u8 0, .int .u8 0, .int .u8 0, .int .u8 0, .int .u8 0, .int .u8 0, .int .u8 0, .int .u8 0, .int .u8 0, .int .u8 0, .int .u8 0, .int .u8 0, .int .u8 0, .int .u8 0, .int .u8 0, .int .u8 0, .int .u8 0, .int .u8 0, .int .u8 0, .int .u8 0, .int .u8 0, .int .u8 0, .int .u8 0, .int .u8 0, .int .u8 0, .int .u8 0, .int .u8 0, .int .u8 0, .int .u8 0, .int .u8 0, .int .u8 0, .int .u8 0, .int .u8 0, .int .u8 0, .int .u8 0, .int .u8 0, .int .u8 0, .int .u8 0, .int .u8 0, .int .u8 0, .int .u8 0]) w := by kernel_rfl
set_option maxRecDepth 100000 in
theorem jsonC (w : World) (B bb : Nat) (d : Option Nat) (l0 : List UInt8) (s : ByteArray) (h : Bld w B bb d l0) (hB : B ≤ w.heap.size) (hT : Lib.Utf8Tabs 2 3 w) (h2B : 4 ≤ B) (hl : l0.length ≤ 1099511627776) (hs : s.size ≤ 1048576) :
    Calls Tryz.prog 67 #[.pointer (some ⟨bb, 0, none⟩), .string s] w fun e w' => e = .returned (.tuple #[]) ∧ BOut w B bb d (l0 ++ quoted s) w' := by
  have hen : ∀ cs : Array Value, cs[0]? = some (encI bb) → EN w B bb w.heap.size d l0 (w.alloc (.cells cs 170)) := fun cs hcs =>
    ⟨⟨d, h.touch ((Touch.refl (fun _ => False) w).alloc _) (fun h => h) (fun _ _ h => h), .inl rfl, (Touch.refl _ w).alloc _⟩, ⟨cs, Row.made _ _ _, hcs⟩, tabs_low hT ((Below.refl 4 w).alloc (Nat.le_trans h2B hB) _), h2B, by rw [World.size_alloc]; omega⟩
  have H := Lib.hid hen
  clear hen h hT
  have hz := zeroEnc
  go_enter Tryz.func67, Tryz.ntmps67
  go_wp2_with fail
  refine (encC w B bb w.heap.size d l0 s _ (H.out _ rfl) hl hs).mono ?_
  rintro e w1 ⟨rfl, h1⟩
  have H1 := Lib.hid h1
  clear h1
  go_wp2_with fail
  go_end0
  exact ⟨rfl, H1.out.1⟩
end Go.Proofs.YtghcggagpagfoaaGreatDoor

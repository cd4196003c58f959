/-
  utf8.DecodeRuneInString at this dump: the shelf's contract (its numbers filled by the shelf's own command; cut to what this seat's laws call).
-/
import Derived.Shelf.Unicode.Decode
import Derived.Shelf.Unicode.DecodeSlow
import Derived.Shelf.Unicode.DecodeAny
import Derived.Test.YtfbpffgcofdciaaDoorProg
namespace Go.Proofs.YtfbpffgcofdciaaDoor
open Go.Shelf
def lays197_ren : Go.Shelf.Ren := ⟨fun | 197 => 20 | 260 => 21 | n => n, fun | 9 => 9 | 21 => 21 | 3 => 3 | 4 => 4 | 5 => 5 | 105 => 51 | 119 => 53 | 0 => 0 | 46 => 38 | 139 => 56 | 138 => 55 | n => n, fun | 3 => 0 | 4 => 1 | n => n⟩
theorem lays197 : Go.Proofs.Lays.n197 Tryd.prog lays197_ren := {
  mixed := by kernel_rfl
  f197 := Tryd.func20.trans (congrArg some (by kernel_rfl))
  f260 := Tryd.func21.trans (congrArg some (by kernel_rfl))
  t0 := Tryd.underlying0
  a0 := Tryd.isAgg0
  z0 := Tryd.sizeOf0
  v0 := Tryd.zeroValue0
  t3 := Tryd.underlying3
  a3 := Tryd.isAgg3
  z3 := Tryd.sizeOf3
  v3 := Tryd.zeroValue3
  t4 := Tryd.underlying4
  a4 := Tryd.isAgg4
  z4 := Tryd.sizeOf4
  v4 := Tryd.zeroValue4
  t5 := Tryd.underlying5
  a5 := Tryd.isAgg5
  z5 := Tryd.sizeOf5
  v5 := Tryd.zeroValue5
  t9 := Tryd.underlying9
  a9 := Tryd.isAgg9
  z9 := Tryd.sizeOf9
  v9 := Tryd.zeroValue9
  t21 := Tryd.underlying21
  a21 := Tryd.isAgg21
  z21 := Tryd.sizeOf21
  v21 := Tryd.zeroValue21
  t46 := Tryd.underlying38
  a46 := Tryd.isAgg38
  z46 := Tryd.sizeOf38
  v46 := Tryd.zeroValue38
  t105 := Tryd.underlying51
  a105 := Tryd.isAgg51
  z105 := Tryd.sizeOf51
  v105 := Tryd.zeroValue51
  t119 := Tryd.underlying53
  a119 := Tryd.isAgg53
  z119 := Tryd.sizeOf53
  t138 := Tryd.underlying55
  a138 := Tryd.isAgg55
  z138 := Tryd.sizeOf55
  v138 := Tryd.zeroValue55
  t139 := Tryd.underlying56
  a139 := Tryd.isAgg56
  z139 := Tryd.sizeOf56
  v139 := Tryd.zeroValue56
  g3 := by kernel_rfl
  g4 := by kernel_rfl }
open Go.RowKit Go.Lib in
/-- unicode/utf8.DecodeRuneInString: "DecodeRuneInString is like DecodeRune but its input is a string.": ("DecodeRune unpacks the first UTF-8 encoding in p and returns the rune and its width in bytes."): WHERE s BEGINS WITH AN ASCII BYTE x: (x, 1). (LAID: no walk: one application.) -/
theorem utf8_DecodeRuneInString_ascii (s : ByteArray) (x : UInt8) (w : World) (h0 : s.data.toList[0]? = some x) (hx : x.toNat < 128) :
    Calls Tryd.prog 20 #[.string s] w fun e w' => e = .returned (.tuple #[.int .i32 x.toNat, .int .i64 1]) ∧ w' = w := Any.utf8_DecodeRuneInString_ascii lays197 s x w h0 hx
def lays260_ren : Go.Shelf.Ren := ⟨fun | 260 => 21 | n => n, fun | 9 => 9 | 21 => 21 | 3 => 3 | 4 => 4 | 5 => 5 | 119 => 53 | 0 => 0 | 46 => 38 | 139 => 56 | 138 => 55 | n => n, fun | 3 => 0 | 4 => 1 | n => n⟩
theorem lays260 : Go.Proofs.Lays.n260 Tryd.prog lays260_ren := {
  mixed := by kernel_rfl
  f260 := Tryd.func21.trans (congrArg some (by kernel_rfl))
  t0 := Tryd.underlying0
  a0 := Tryd.isAgg0
  z0 := Tryd.sizeOf0
  v0 := Tryd.zeroValue0
  t3 := Tryd.underlying3
  a3 := Tryd.isAgg3
  z3 := Tryd.sizeOf3
  v3 := Tryd.zeroValue3
  t4 := Tryd.underlying4
  a4 := Tryd.isAgg4
  z4 := Tryd.sizeOf4
  v4 := Tryd.zeroValue4
  t5 := Tryd.underlying5
  a5 := Tryd.isAgg5
  z5 := Tryd.sizeOf5
  v5 := Tryd.zeroValue5
  t9 := Tryd.underlying9
  a9 := Tryd.isAgg9
  z9 := Tryd.sizeOf9
  v9 := Tryd.zeroValue9
  t21 := Tryd.underlying21
  a21 := Tryd.isAgg21
  z21 := Tryd.sizeOf21
  v21 := Tryd.zeroValue21
  t46 := Tryd.underlying38
  a46 := Tryd.isAgg38
  z46 := Tryd.sizeOf38
  v46 := Tryd.zeroValue38
  t119 := Tryd.underlying53
  a119 := Tryd.isAgg53
  z119 := Tryd.sizeOf53
  t138 := Tryd.underlying55
  a138 := Tryd.isAgg55
  z138 := Tryd.sizeOf55
  v138 := Tryd.zeroValue55
  t139 := Tryd.underlying56
  a139 := Tryd.isAgg56
  z139 := Tryd.sizeOf56
  v139 := Tryd.zeroValue56
  g3 := by kernel_rfl
  g4 := by kernel_rfl }
open Go.RowKit Go.Lib in
theorem utf8_decodeRuneInStringSlow (s : ByteArray) (w : World) (hT : Lib.Utf8Tabs 0 1 w) :
    Calls Tryd.prog 21 #[.string s] w fun e w' => e = .returned (.tuple #[.int .i32 (Lib.decodeGo s).1, .int .i64 (Lib.decodeGo s).2]) ∧ Below w.heap.size w w' := Any.utf8_decodeRuneInStringSlow lays260 s w hT
open Go.RowKit Go.Lib in
/-- **unicode/utf8.DecodeRuneInString AT EVERY STRING.** (LAID: no walk: one application.) -/
theorem utf8_DecodeRuneInString (s : ByteArray) (w : World) (hT : Lib.Utf8Tabs 0 1 w) :
    Calls Tryd.prog 20 #[.string s] w fun e w' => e = .returned (.tuple #[.int .i32 (Lib.decodeGo s).1, .int .i64 (Lib.decodeGo s).2]) ∧ Below w.heap.size w w' := Any.utf8_DecodeRuneInString lays197 s w hT
end Go.Proofs.YtfbpffgcofdciaaDoor

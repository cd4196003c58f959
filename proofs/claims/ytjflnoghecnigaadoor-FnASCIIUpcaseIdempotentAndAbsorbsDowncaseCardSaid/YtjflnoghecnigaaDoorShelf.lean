/-
  strings.Map at this dump: the shelf's contract (its numbers filled by the shelf's own command; cut to what this seat's laws call).
-/
import Derived.Shelf.Strings.Builder1
import Derived.Shelf.Strings.Builder2
import Derived.Shelf.Small.Utf8
import Derived.Shelf.Strings.BuilderF
import Derived.Shelf.Strings.BuilderK
import Derived.Shelf.Strings.BuilderRune
import Derived.Shelf.Strings.Builder2Cap
import Derived.Shelf.Unicode.Decode
import Derived.Shelf.Unicode.DecodeSlow
import Derived.Shelf.Unicode.DecodeAny
import Derived.Shelf.Strings.MapAny
import Derived.Test.YtjflnoghecnigaaDoorProg
namespace Go.Proofs.YtjflnoghecnigaaDoor
open Go.Shelf
def lays260_ren : Go.Shelf.Ren := ⟨fun | 260 => 24 | n => n, fun | 9 => 9 | 21 => 21 | 3 => 3 | 4 => 4 | 5 => 5 | 119 => 51 | 0 => 0 | 46 => 52 | 139 => 55 | 138 => 54 | n => n, fun | 3 => 0 | 4 => 1 | n => n⟩
theorem lays260 : Go.Proofs.Lays.n260 Tryd.prog lays260_ren := {
  mixed := by kernel_rfl
  f260 := Tryd.func24.trans (congrArg some (by kernel_rfl))
  t0 := Tryd.underlying0
  a0 := Tryd.isAgg0
  z0 := Tryd.sizeOf0
  v0 := Tryd.zeroValue0
  t3 := Tryd.underlying3
  a3 := Tryd.isAgg3
  z3 := Tryd.sizeOf3
  v3 := Tryd.zeroValue3
  t4 := Tryd.underlying4
  a4 := Tryd.isAgg4
  z4 := Tryd.sizeOf4
  v4 := Tryd.zeroValue4
  t5 := Tryd.underlying5
  a5 := Tryd.isAgg5
  z5 := Tryd.sizeOf5
  v5 := Tryd.zeroValue5
  t9 := Tryd.underlying9
  a9 := Tryd.isAgg9
  z9 := Tryd.sizeOf9
  v9 := Tryd.zeroValue9
  t21 := Tryd.underlying21
  a21 := Tryd.isAgg21
  z21 := Tryd.sizeOf21
  v21 := Tryd.zeroValue21
  t46 := Tryd.underlying52
  a46 := Tryd.isAgg52
  z46 := Tryd.sizeOf52
  v46 := Tryd.zeroValue52
  t119 := Tryd.underlying51
  a119 := Tryd.isAgg51
  z119 := Tryd.sizeOf51
  t138 := Tryd.underlying54
  a138 := Tryd.isAgg54
  z138 := Tryd.sizeOf54
  v138 := Tryd.zeroValue54
  t139 := Tryd.underlying55
  a139 := Tryd.isAgg55
  z139 := Tryd.sizeOf55
  v139 := Tryd.zeroValue55
  g3 := by kernel_rfl
  g4 := by kernel_rfl }
def lays230_ren : Go.Shelf.Ren := ⟨fun | 230 => 13 | 197 => 16 | 118 => 17 | 165 => 18 | 166 => 19 | 168 => 20 | 270 => 21 | 167 => 22 | 169 => 23 | 260 => 24 | 240 => 25 | 241 => 26 | 242 => 27 | 276 => 28 | 277 => 29 | 278 => 30 | n => n, fun | 107 => 33 | 9 => 9 | 72 => 36 | 0 => 0 | 4 => 4 | 3 => 3 | 21 => 21 | 105 => 37 | 76 => 43 | 5 => 5 | 75 => 42 | 70 => 34 | 20 => 20 | 37 => 27 | 127 => 50 | 119 => 51 | 46 => 52 | 139 => 55 | 138 => 54 | 164 => 56 | 51 => 59 | 80 => 48 | n => n, fun | 3 => 0 | 4 => 1 | n => n⟩
theorem lays230 : Go.Proofs.Lays.n230 Tryd.prog lays230_ren := {
  mixed := by kernel_rfl
  f118 := Tryd.func17.trans (congrArg some (by kernel_rfl))
  f165 := Tryd.func18.trans (congrArg some (by kernel_rfl))
  f166 := Tryd.func19.trans (congrArg some (by kernel_rfl))
  f167 := Tryd.func22.trans (congrArg some (by kernel_rfl))
  f168 := Tryd.func20.trans (congrArg some (by kernel_rfl))
  f169 := Tryd.func23.trans (congrArg some (by kernel_rfl))
  f197 := Tryd.func16.trans (congrArg some (by kernel_rfl))
  f230 := Tryd.func13.trans (congrArg some (by kernel_rfl))
  f240 := Tryd.func25.trans (congrArg some (by kernel_rfl))
  f241 := Tryd.func26.trans (congrArg some (by kernel_rfl))
  f242 := Tryd.func27.trans (congrArg some (by kernel_rfl))
  f260 := Tryd.func24.trans (congrArg some (by kernel_rfl))
  f270 := Tryd.func21.trans (congrArg some (by kernel_rfl))
  f276 := Tryd.func28.trans (congrArg some (by kernel_rfl))
  f277 := Tryd.func29.trans (congrArg some (by kernel_rfl))
  f278 := Tryd.func30.trans (congrArg some (by kernel_rfl))
  t0 := Tryd.underlying0
  a0 := Tryd.isAgg0
  z0 := Tryd.sizeOf0
  v0 := Tryd.zeroValue0
  t3 := Tryd.underlying3
  a3 := Tryd.isAgg3
  z3 := Tryd.sizeOf3
  v3 := Tryd.zeroValue3
  t4 := Tryd.underlying4
  a4 := Tryd.isAgg4
  z4 := Tryd.sizeOf4
  v4 := Tryd.zeroValue4
  t5 := Tryd.underlying5
  a5 := Tryd.isAgg5
  z5 := Tryd.sizeOf5
  v5 := Tryd.zeroValue5
  t9 := Tryd.underlying9
  a9 := Tryd.isAgg9
  z9 := Tryd.sizeOf9
  v9 := Tryd.zeroValue9
  t20 := Tryd.underlying20
  a20 := Tryd.isAgg20
  z20 := Tryd.sizeOf20
  v20 := Tryd.zeroValue20
  t21 := Tryd.underlying21
  a21 := Tryd.isAgg21
  z21 := Tryd.sizeOf21
  v21 := Tryd.zeroValue21
  t37 := Tryd.underlying27
  a37 := Tryd.isAgg27
  z37 := Tryd.sizeOf27
  v37 := Tryd.zeroValue27
  t46 := Tryd.underlying52
  a46 := Tryd.isAgg52
  z46 := Tryd.sizeOf52
  v46 := Tryd.zeroValue52
  t51 := Tryd.underlying59
  a51 := Tryd.isAgg59
  z51 := Tryd.sizeOf59
  v51 := Tryd.zeroValue59
  t70 := Tryd.underlying34
  a70 := Tryd.isAgg34
  z70 := Tryd.sizeOf34
  v70 := Tryd.zeroValue34
  t72 := Tryd.underlying36
  a72 := Tryd.isAgg36
  z72 := Tryd.sizeOf36
  v72 := Tryd.zeroValue36
  t75 := Tryd.underlying42
  a75 := Tryd.isAgg42
  z75 := Tryd.sizeOf42
  v75 := Tryd.zeroValue42
  t76 := Tryd.underlying43
  a76 := Tryd.isAgg43
  z76 := Tryd.sizeOf43
  v76 := Tryd.zeroValue43
  t105 := Tryd.underlying37
  a105 := Tryd.isAgg37
  z105 := Tryd.sizeOf37
  v105 := Tryd.zeroValue37
  t107 := Tryd.underlying33
  a107 := Tryd.isAgg33
  z107 := Tryd.sizeOf33
  v107 := Tryd.zeroValue33
  t119 := Tryd.underlying51
  a119 := Tryd.isAgg51
  z119 := Tryd.sizeOf51
  t127 := Tryd.underlying50
  a127 := Tryd.isAgg50
  z127 := Tryd.sizeOf50
  v127 := Tryd.zeroValue50
  t138 := Tryd.underlying54
  a138 := Tryd.isAgg54
  z138 := Tryd.sizeOf54
  v138 := Tryd.zeroValue54
  t139 := Tryd.underlying55
  a139 := Tryd.isAgg55
  z139 := Tryd.sizeOf55
  v139 := Tryd.zeroValue55
  t164 := Tryd.underlying56
  a164 := Tryd.isAgg56
  z164 := Tryd.sizeOf56
  v164 := Tryd.zeroValue56
  g3 := by kernel_rfl
  g4 := by kernel_rfl }
theorem Builder_Extra_230 : Builder.Extra Tryd.prog lays230_ren := {
  sizeBuilder := by kernel_rfl
  liesBuilder := by kernel_rfl
  t5 := Tryd.underlying5
  a5 := Tryd.isAgg5
  z5 := Tryd.sizeOf5
  v5 := Tryd.zeroValue5
  infoByte := by kernel_rfl
  cellsByte := by kernel_rfl
  sizeByte := by kernel_rfl
  neB5 := by decide }
open Go.RowKit Go.Lib in
theorem strings_Map_runes (g : Nat) (lb : Array Value) (eg : ∀ args w, (callFunc g args).run Tryd.prog w = .ok (.enter g args) w) (f : Int → Int) (s : ByteArray) (w : World) (hs : s.size < 35184372088832) (hf : MapAtRunes Tryd.prog g lb f w) (hnn : ∀ x : Nat, x ≤ 1114111 → 0 ≤ f x ∧ f x ≤ 2147483647) (hT : Lib.Utf8Tabs 0 1 w) :
    Calls Tryd.prog 13 #[.func (.func g) #[] lb, .string s] w fun e w' => e = .returned (.string ⟨(Lib.mapD f s.data.toList).toArray⟩) ∧ Below w.heap.size w w' := Any.strings_Map_runes lays230 Builder_Extra_230 g lb eg f s w hs hf hnn hT
end Go.Proofs.YtjflnoghecnigaaDoor

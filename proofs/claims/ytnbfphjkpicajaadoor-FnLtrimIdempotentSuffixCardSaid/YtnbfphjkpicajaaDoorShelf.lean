/-
  The numbers of strings.TrimLeftFunc and unicode.IsSpace at this dump, filled by the shelf's own command.
-/
import Derived.Shelf.GgClosure.StringsIndexFunc
import Derived.Shelf.GgClosure.StringsTrimFunc
import Derived.Shelf.GgClosure.StringsRunes
import Derived.Shelf.Unicode.Latin
import Derived.Shelf.Unicode.Is16White
import Derived.Shelf.Unicode.IsSpaceAny
import Derived.Shelf.Unicode.IsSpaceAnyD
import Derived.Shelf.Unicode.Is16Any
import Derived.Shelf.Unicode.Is32Any
import Derived.Shelf.Unicode.ExclAny
import Derived.Test.YtnbfphjkpicajaaDoorProg
namespace Go.Proofs.YtnbfphjkpicajaaDoor
open Go.Shelf
def lays272_ren : Go.Shelf.Ren := ⟨fun | 272 => 13 | 315 => 15 | n => n, fun | 9 => 9 | 40 => 36 | 4 => 4 | 3 => 3 | 0 => 0 | 21 => 21 | n => n, fun | n => n⟩
theorem lays272 : Go.Proofs.Lays.n272 Tryd.prog lays272_ren := {
  mixed := by kernel_rfl
  f272 := Tryd.func13.trans (congrArg some (by kernel_rfl))
  f315 := Tryd.func15.trans (congrArg some (by kernel_rfl))
  t0 := Tryd.underlying0
  a0 := Tryd.isAgg0
  z0 := Tryd.sizeOf0
  v0 := Tryd.zeroValue0
  t3 := Tryd.underlying3
  a3 := Tryd.isAgg3
  z3 := Tryd.sizeOf3
  v3 := Tryd.zeroValue3
  t4 := Tryd.underlying4
  a4 := Tryd.isAgg4
  z4 := Tryd.sizeOf4
  v4 := Tryd.zeroValue4
  t9 := Tryd.underlying9
  a9 := Tryd.isAgg9
  z9 := Tryd.sizeOf9
  v9 := Tryd.zeroValue9
  t21 := Tryd.underlying21
  a21 := Tryd.isAgg21
  z21 := Tryd.sizeOf21
  v21 := Tryd.zeroValue21
  t40 := Tryd.underlying36
  a40 := Tryd.isAgg36
  z40 := Tryd.sizeOf36
  v40 := Tryd.zeroValue36 }
def lays199_ren : Go.Shelf.Ren := ⟨fun | 199 => 14 | 261 => 16 | 311 => 17 | 312 => 18 | n => n, fun | 21 => 21 | 4 => 4 | 51 => 38 | 141 => 40 | 0 => 0 | 196 => 44 | 193 => 41 | 3 => 3 | 198 => 47 | 49 => 45 | 194 => 42 | 201 => 50 | 226 => 52 | 46 => 53 | 227 => 54 | n => n, fun | 6 => 0 | n => n⟩
theorem lays199 : Go.Proofs.Lays.n199 Tryd.prog lays199_ren := {
  mixed := by kernel_rfl
  f199 := Tryd.func14.trans (congrArg some (by kernel_rfl))
  f261 := Tryd.func16.trans (congrArg some (by kernel_rfl))
  f311 := Tryd.func17.trans (congrArg some (by kernel_rfl))
  f312 := Tryd.func18.trans (congrArg some (by kernel_rfl))
  t0 := Tryd.underlying0
  a0 := Tryd.isAgg0
  z0 := Tryd.sizeOf0
  v0 := Tryd.zeroValue0
  t3 := Tryd.underlying3
  a3 := Tryd.isAgg3
  z3 := Tryd.sizeOf3
  v3 := Tryd.zeroValue3
  t4 := Tryd.underlying4
  a4 := Tryd.isAgg4
  z4 := Tryd.sizeOf4
  v4 := Tryd.zeroValue4
  t21 := Tryd.underlying21
  a21 := Tryd.isAgg21
  z21 := Tryd.sizeOf21
  v21 := Tryd.zeroValue21
  t46 := Tryd.underlying53
  a46 := Tryd.isAgg53
  z46 := Tryd.sizeOf53
  v46 := Tryd.zeroValue53
  t49 := Tryd.underlying45
  a49 := Tryd.isAgg45
  z49 := Tryd.sizeOf45
  v49 := Tryd.zeroValue45
  t51 := Tryd.underlying38
  a51 := Tryd.isAgg38
  z51 := Tryd.sizeOf38
  v51 := Tryd.zeroValue38
  t141 := Tryd.underlying40
  a141 := Tryd.isAgg40
  z141 := Tryd.sizeOf40
  v141 := Tryd.zeroValue40
  t193 := Tryd.underlying41
  a193 := Tryd.isAgg41
  z193 := Tryd.sizeOf41
  v193 := Tryd.zeroValue41
  t194 := Tryd.underlying42
  a194 := Tryd.isAgg42
  z194 := Tryd.sizeOf42
  v194 := Tryd.zeroValue42
  t196 := Tryd.underlying44
  a196 := Tryd.isAgg44
  z196 := Tryd.sizeOf44
  v196 := Tryd.zeroValue44
  t198 := Tryd.underlying47
  a198 := Tryd.isAgg47
  z198 := Tryd.sizeOf47
  v198 := Tryd.zeroValue47
  t201 := Tryd.underlying50
  a201 := Tryd.isAgg50
  z201 := Tryd.sizeOf50
  v201 := Tryd.zeroValue50
  t226 := Tryd.underlying52
  a226 := Tryd.isAgg52
  z226 := Tryd.sizeOf52
  v226 := Tryd.zeroValue52
  t227 := Tryd.underlying54
  a227 := Tryd.isAgg54
  z227 := Tryd.sizeOf54
  v227 := Tryd.zeroValue54
  g6 := by kernel_rfl }
end Go.Proofs.YtnbfphjkpicajaaDoor

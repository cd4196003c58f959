/-
  strings.Repeat at this dump: the shelf's contract (its numbers filled by the shelf's own command; cut to what this seat's laws call).
-/
import Derived.Shelf.Strings.Repeat
import Derived.Test.YtdjebcejpachmaaProg
namespace Go.Proofs.Ytdjebcejpachmaa
open Go.Shelf
def lays105_ren : Go.Shelf.Ren := ⟨fun | 105 => 43 | 212 => 54 | 99 => 55 | 165 => 56 | 166 => 57 | 170 => 58 | 169 => 59 | 263 => 61 | 264 => 62 | 206 => 63 | 240 => 64 | 241 => 65 | 276 => 67 | 277 => 68 | n => n, fun | 9 => 9 | 3 => 3 | 4 => 4 | 20 => 20 | 0 => 0 | 46 => 89 | 109 => 90 | 5 => 5 | 72 => 96 | 76 => 100 | 51 => 105 | 146 => 106 | 53 => 25 | 148 => 108 | 70 => 93 | 37 => 94 | 75 => 99 | 127 => 110 | 164 => 112 | 80 => 102 | n => n, fun | n => n⟩
theorem lays105 : Go.Proofs.Lays.n105 Try.prog lays105_ren := {
  mixed := by kernel_rfl
  f99 := Try.func55.trans (congrArg some (by kernel_rfl))
  f105 := Try.func43.trans (congrArg some (by kernel_rfl))
  f165 := Try.func56.trans (congrArg some (by kernel_rfl))
  f166 := Try.func57.trans (congrArg some (by kernel_rfl))
  f169 := Try.func59.trans (congrArg some (by kernel_rfl))
  f170 := Try.func58.trans (congrArg some (by kernel_rfl))
  f206 := Try.func63.trans (congrArg some (by kernel_rfl))
  f212 := Try.func54.trans (congrArg some (by kernel_rfl))
  f240 := Try.func64.trans (congrArg some (by kernel_rfl))
  f241 := Try.func65.trans (congrArg some (by kernel_rfl))
  f263 := Try.func61.trans (congrArg some (by kernel_rfl))
  f264 := Try.func62.trans (congrArg some (by kernel_rfl))
  f276 := Try.func67.trans (congrArg some (by kernel_rfl))
  f277 := Try.func68.trans (congrArg some (by kernel_rfl))
  t0 := Try.underlying0
  a0 := Try.isAgg0
  z0 := Try.sizeOf0
  v0 := Try.zeroValue0
  t3 := Try.underlying3
  a3 := Try.isAgg3
  z3 := Try.sizeOf3
  v3 := Try.zeroValue3
  t4 := Try.underlying4
  a4 := Try.isAgg4
  z4 := Try.sizeOf4
  v4 := Try.zeroValue4
  t5 := Try.underlying5
  a5 := Try.isAgg5
  z5 := Try.sizeOf5
  v5 := Try.zeroValue5
  t9 := Try.underlying9
  a9 := Try.isAgg9
  z9 := Try.sizeOf9
  v9 := Try.zeroValue9
  t20 := Try.underlying20
  a20 := Try.isAgg20
  z20 := Try.sizeOf20
  v20 := Try.zeroValue20
  t37 := Try.underlying94
  a37 := Try.isAgg94
  z37 := Try.sizeOf94
  v37 := Try.zeroValue94
  t46 := Try.underlying89
  a46 := Try.isAgg89
  z46 := Try.sizeOf89
  v46 := Try.zeroValue89
  t51 := Try.underlying105
  a51 := Try.isAgg105
  z51 := Try.sizeOf105
  v51 := Try.zeroValue105
  t53 := Try.underlying25
  a53 := Try.isAgg25
  z53 := Try.sizeOf25
  v53 := Try.zeroValue25
  t70 := Try.underlying93
  a70 := Try.isAgg93
  z70 := Try.sizeOf93
  v70 := Try.zeroValue93
  t72 := Try.underlying96
  a72 := Try.isAgg96
  z72 := Try.sizeOf96
  v72 := Try.zeroValue96
  t75 := Try.underlying99
  a75 := Try.isAgg99
  z75 := Try.sizeOf99
  v75 := Try.zeroValue99
  t76 := Try.underlying100
  a76 := Try.isAgg100
  z76 := Try.sizeOf100
  v76 := Try.zeroValue100
  t109 := Try.underlying90
  a109 := Try.isAgg90
  z109 := Try.sizeOf90
  v109 := Try.zeroValue90
  t127 := Try.underlying110
  a127 := Try.isAgg110
  z127 := Try.sizeOf110
  v127 := Try.zeroValue110
  t146 := Try.underlying106
  a146 := Try.isAgg106
  z146 := Try.sizeOf106
  v146 := Try.zeroValue106
  t148 := Try.underlying108
  a148 := Try.isAgg108
  z148 := Try.sizeOf108
  v148 := Try.zeroValue108
  t164 := Try.underlying112
  a164 := Try.isAgg112
  z164 := Try.sizeOf112
  v164 := Try.zeroValue112 }
theorem Builder_Extra_105 : Builder.Extra Try.prog lays105_ren := {
  sizeBuilder := by kernel_rfl
  liesBuilder := by kernel_rfl
  t5 := Try.underlying5
  a5 := Try.isAgg5
  z5 := Try.sizeOf5
  v5 := Try.zeroValue5
  infoByte := by kernel_rfl
  cellsByte := by kernel_rfl
  sizeByte := by kernel_rfl
  neB5 := by decide }
open Go.RowKit in
theorem strings_Repeat (s : ByteArray) (c : Nat) (w : World) (hc : c ≤ 9223372036854775807) (hlen : s.size * c ≤ 140737488355328) :
    Calls Try.prog 43 #[.string s, .int .i64 c] w fun e w' => e = .returned (.string ⟨(Lib.repeatL s.data.toList c).toArray⟩) ∧ Below w.heap.size w w' := Any.strings_Repeat lays105 Builder_Extra_105 s c w hc hlen
end Go.Proofs.Ytdjebcejpachmaa

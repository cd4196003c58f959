/-
  utf8.DecodeRuneInString, strings.Join, strings.Fields at this dump: the shelf's contracts (numbers filled by the shelf's own command; cut to what this seat's law calls).
-/
import Derived.Shelf.Strings.Builder1
import Derived.Shelf.Strings.Builder2
import Derived.Shelf.Strings.OnBuilder
import Derived.Shelf.Strings.Fields
import Derived.Shelf.Unicode.DecodeSlow
import Derived.Shelf.Unicode.DecodeAny
import Derived.Test.YtghcggagpagfoaaGreatDoorProg
namespace Go.Proofs.YtghcggagpagfoaaGreatDoor
open Go.Shelf
def lays156_ren : Go.Shelf.Ren := ⟨fun | 156 => 49 | 165 => 70 | 166 => 40 | 169 => 17 | 240 => 65 | 241 => 81 | 276 => 77 | 277 => 84 | n => n, fun | 31 => 107 | 9 => 9 | 3 => 3 | 4 => 4 | 0 => 0 | 20 => 20 | 72 => 53 | 76 => 123 | 70 => 51 | 37 => 22 | 75 => 122 | 127 => 126 | 164 => 164 | 5 => 5 | 80 => 28 | n => n, fun | n => n⟩
theorem lays156 : Go.Proofs.Lays.n156 Tryz.prog lays156_ren := {
  mixed := by kernel_rfl
  f156 := Tryz.func49.trans (congrArg some (by kernel_rfl))
  f165 := Tryz.func70.trans (congrArg some (by kernel_rfl))
  f166 := Tryz.func40.trans (congrArg some (by kernel_rfl))
  f169 := Tryz.func17.trans (congrArg some (by kernel_rfl))
  f240 := Tryz.func65.trans (congrArg some (by kernel_rfl))
  f241 := Tryz.func81.trans (congrArg some (by kernel_rfl))
  f276 := Tryz.func77.trans (congrArg some (by kernel_rfl))
  f277 := Tryz.func84.trans (congrArg some (by kernel_rfl))
  t0 := Tryz.underlying0
  a0 := Tryz.isAgg0
  z0 := Tryz.sizeOf0
  v0 := Tryz.zeroValue0
  t3 := Tryz.underlying3
  a3 := Tryz.isAgg3
  z3 := Tryz.sizeOf3
  v3 := Tryz.zeroValue3
  t4 := Tryz.underlying4
  a4 := Tryz.isAgg4
  z4 := Tryz.sizeOf4
  v4 := Tryz.zeroValue4
  t9 := Tryz.underlying9
  a9 := Tryz.isAgg9
  z9 := Tryz.sizeOf9
  v9 := Tryz.zeroValue9
  t20 := Tryz.underlying20
  a20 := Tryz.isAgg20
  z20 := Tryz.sizeOf20
  v20 := Tryz.zeroValue20
  t31 := Tryz.underlying107
  a31 := Tryz.isAgg107
  z31 := Tryz.sizeOf107
  v31 := Tryz.zeroValue107
  t37 := Tryz.underlying22
  a37 := Tryz.isAgg22
  z37 := Tryz.sizeOf22
  v37 := Tryz.zeroValue22
  t70 := Tryz.underlying51
  a70 := Tryz.isAgg51
  z70 := Tryz.sizeOf51
  v70 := Tryz.zeroValue51
  t72 := Tryz.underlying53
  a72 := Tryz.isAgg53
  z72 := Tryz.sizeOf53
  v72 := Tryz.zeroValue53
  t75 := Tryz.underlying122
  a75 := Tryz.isAgg122
  z75 := Tryz.sizeOf122
  v75 := Tryz.zeroValue122
  t76 := Tryz.underlying123
  a76 := Tryz.isAgg123
  z76 := Tryz.sizeOf123
  v76 := Tryz.zeroValue123
  t127 := Tryz.underlying126
  a127 := Tryz.isAgg126
  z127 := Tryz.sizeOf126
  v127 := Tryz.zeroValue126
  t164 := Tryz.underlying164
  a164 := Tryz.isAgg164
  z164 := Tryz.sizeOf164
  v164 := Tryz.zeroValue164 }
theorem Builder_Extra_156 : Builder.Extra Tryz.prog lays156_ren := {
  sizeBuilder := by kernel_rfl
  liesBuilder := by kernel_rfl
  t5 := Tryz.underlying5
  a5 := Tryz.isAgg5
  z5 := Tryz.sizeOf5
  v5 := Tryz.zeroValue5
  infoByte := by kernel_rfl
  cellsByte := by kernel_rfl
  sizeByte := by kernel_rfl
  neB5 := by decide }
open Go.RowKit in
/-- No element: the empty string; the world is as it was. (Whatever the slice's address and capacity: a nil slice too.) (LAID: no walk: one application.) -/
theorem strings_Join_none (a : Option Addr) (c : Nat) (sep : ByteArray) (w : World) :
    Calls Tryz.prog 49 #[.slice a 0 c, .string sep] w fun e w' => e = .returned (.string ⟨#[]⟩) ∧ w' = w := Any.strings_Join_none lays156 Builder_Extra_156 a c sep w
open Go.RowKit in
/-- strings.Join: "Join concatenates the elements of its first argument to create a single string. The separator string sep is placed between elements in the resulting string.": HOWEVER MANY ELEMENTS. Below the heap's end the world is as it was. (LAID: no walk: one application.) -/
theorem strings_Join (bk o c : Nat) (xs : List ByteArray) (sep : ByteArray) (w : World) (hcells : ∀ (j : Nat) x, xs[j]? = some x → w.cell? ⟨bk, o + j, none⟩ = some (.string x)) (hbk : bk < w.heap.size) (hN : xs.length ≤ 140737488355328) (hcap : xs.length ≤ c) (hlen : (Lib.join (xs.map (·.data.toList)) sep.data.toList).length ≤ 140737488355328) :
    Calls Tryz.prog 49 #[.slice (some ⟨bk, o, none⟩) xs.length c, .string sep] w fun e w' => e = .returned (.string ⟨(Lib.join (xs.map (·.data.toList)) sep.data.toList).toArray⟩) ∧ Below w.heap.size w w' := Any.strings_Join lays156 Builder_Extra_156 bk o c xs sep w hcells hbk hN hcap hlen
def lays157_ren : Go.Shelf.Ren := ⟨fun | 157 => 50 | 229 => 71 | 199 => 72 | 261 => 82 | 311 => 85 | 312 => 86 | n => n, fun | 9 => 9 | 31 => 107 | 3 => 3 | 5 => 5 | 4 => 4 | 119 => 161 | 0 => 0 | 40 => 163 | 152 => 172 | 21 => 21 | 154 => 174 | 51 => 175 | 141 => 177 | 196 => 185 | 193 => 182 | 198 => 188 | 49 => 186 | 194 => 183 | 201 => 191 | 226 => 193 | 46 => 48 | 227 => 194 | n => n, fun | 0 => 0 | 6 => 1 | n => n⟩
theorem lays157 : Go.Proofs.Lays.n157 Tryz.prog lays157_ren := {
  mixed := by kernel_rfl
  f157 := Tryz.func50.trans (congrArg some (by kernel_rfl))
  f199 := Tryz.func72.trans (congrArg some (by kernel_rfl))
  f229 := Tryz.func71.trans (congrArg some (by kernel_rfl))
  f261 := Tryz.func82.trans (congrArg some (by kernel_rfl))
  f311 := Tryz.func85.trans (congrArg some (by kernel_rfl))
  f312 := Tryz.func86.trans (congrArg some (by kernel_rfl))
  t0 := Tryz.underlying0
  a0 := Tryz.isAgg0
  z0 := Tryz.sizeOf0
  v0 := Tryz.zeroValue0
  t3 := Tryz.underlying3
  a3 := Tryz.isAgg3
  z3 := Tryz.sizeOf3
  v3 := Tryz.zeroValue3
  t4 := Tryz.underlying4
  a4 := Tryz.isAgg4
  z4 := Tryz.sizeOf4
  v4 := Tryz.zeroValue4
  t5 := Tryz.underlying5
  a5 := Tryz.isAgg5
  z5 := Tryz.sizeOf5
  v5 := Tryz.zeroValue5
  t9 := Tryz.underlying9
  a9 := Tryz.isAgg9
  z9 := Tryz.sizeOf9
  v9 := Tryz.zeroValue9
  t21 := Tryz.underlying21
  a21 := Tryz.isAgg21
  z21 := Tryz.sizeOf21
  v21 := Tryz.zeroValue21
  t31 := Tryz.underlying107
  a31 := Tryz.isAgg107
  z31 := Tryz.sizeOf107
  v31 := Tryz.zeroValue107
  t40 := Tryz.underlying163
  a40 := Tryz.isAgg163
  z40 := Tryz.sizeOf163
  v40 := Tryz.zeroValue163
  t46 := Tryz.underlying48
  a46 := Tryz.isAgg48
  z46 := Tryz.sizeOf48
  v46 := Tryz.zeroValue48
  t49 := Tryz.underlying186
  a49 := Tryz.isAgg186
  z49 := Tryz.sizeOf186
  v49 := Tryz.zeroValue186
  t51 := Tryz.underlying175
  a51 := Tryz.isAgg175
  z51 := Tryz.sizeOf175
  v51 := Tryz.zeroValue175
  t119 := Tryz.underlying161
  a119 := Tryz.isAgg161
  z119 := Tryz.sizeOf161
  t141 := Tryz.underlying177
  a141 := Tryz.isAgg177
  z141 := Tryz.sizeOf177
  v141 := Tryz.zeroValue177
  t152 := Tryz.underlying172
  a152 := Tryz.isAgg172
  z152 := Tryz.sizeOf172
  v152 := Tryz.zeroValue172
  t154 := Tryz.underlying174
  a154 := Tryz.isAgg174
  z154 := Tryz.sizeOf174
  v154 := Tryz.zeroValue174
  t193 := Tryz.underlying182
  a193 := Tryz.isAgg182
  z193 := Tryz.sizeOf182
  v193 := Tryz.zeroValue182
  t194 := Tryz.underlying183
  a194 := Tryz.isAgg183
  z194 := Tryz.sizeOf183
  v194 := Tryz.zeroValue183
  t196 := Tryz.underlying185
  a196 := Tryz.isAgg185
  z196 := Tryz.sizeOf185
  v196 := Tryz.zeroValue185
  t198 := Tryz.underlying188
  a198 := Tryz.isAgg188
  z198 := Tryz.sizeOf188
  v198 := Tryz.zeroValue188
  t201 := Tryz.underlying191
  a201 := Tryz.isAgg191
  z201 := Tryz.sizeOf191
  v201 := Tryz.zeroValue191
  t226 := Tryz.underlying193
  a226 := Tryz.isAgg193
  z226 := Tryz.sizeOf193
  v226 := Tryz.zeroValue193
  t227 := Tryz.underlying194
  a227 := Tryz.isAgg194
  z227 := Tryz.sizeOf194
  v227 := Tryz.zeroValue194
  g0 := by kernel_rfl
  g6 := by kernel_rfl }
open Go.RowKit Go.Lib in
/-- strings.Fields, the table by 'Lib.TabIs' (as strings.TrimSpace's contract). 'hg': the table's number, by its name: at a dump 'by kernel_rfl'. (LAID: no walk: one application.) -/
theorem strings_Fields (s : ByteArray) (w : World) (hs : s.size < 4294967281) (hascii : ∀ (j : Nat) b, s.data.toList[j]? = some b → b.toNat < 128) (htab : Lib.TabIs Tryz.prog w "strings.asciiSpace" .u8 Lib.asciiSpaceTab) :
    Calls Tryz.prog 50 #[.string s] w fun e w' =>
      e = .returned (.slice (some ⟨w.heap.size, 0, none⟩) (Lib.fields s.data.toList).length (Lib.fields s.data.toList).length) ∧ w' = w.alloc (.cells ((Lib.fields s.data.toList).map fun l => Value.string ⟨l.toArray⟩).toArray 9) := Any.strings_Fields lays157 (by kernel_rfl) (by kernel_rfl) s w hs hascii htab
def lays260_ren : Go.Shelf.Ren := ⟨fun | 260 => 80 | n => n, fun | 9 => 9 | 21 => 21 | 3 => 3 | 4 => 4 | 5 => 5 | 119 => 161 | 0 => 0 | 46 => 48 | 139 => 180 | 138 => 179 | n => n, fun | 3 => 2 | 4 => 3 | n => n⟩
theorem lays260 : Go.Proofs.Lays.n260 Tryz.prog lays260_ren := {
  mixed := by kernel_rfl
  f260 := Tryz.func80.trans (congrArg some (by kernel_rfl))
  t0 := Tryz.underlying0
  a0 := Tryz.isAgg0
  z0 := Tryz.sizeOf0
  v0 := Tryz.zeroValue0
  t3 := Tryz.underlying3
  a3 := Tryz.isAgg3
  z3 := Tryz.sizeOf3
  v3 := Tryz.zeroValue3
  t4 := Tryz.underlying4
  a4 := Tryz.isAgg4
  z4 := Tryz.sizeOf4
  v4 := Tryz.zeroValue4
  t5 := Tryz.underlying5
  a5 := Tryz.isAgg5
  z5 := Tryz.sizeOf5
  v5 := Tryz.zeroValue5
  t9 := Tryz.underlying9
  a9 := Tryz.isAgg9
  z9 := Tryz.sizeOf9
  v9 := Tryz.zeroValue9
  t21 := Tryz.underlying21
  a21 := Tryz.isAgg21
  z21 := Tryz.sizeOf21
  v21 := Tryz.zeroValue21
  t46 := Tryz.underlying48
  a46 := Tryz.isAgg48
  z46 := Tryz.sizeOf48
  v46 := Tryz.zeroValue48
  t119 := Tryz.underlying161
  a119 := Tryz.isAgg161
  z119 := Tryz.sizeOf161
  t138 := Tryz.underlying179
  a138 := Tryz.isAgg179
  z138 := Tryz.sizeOf179
  v138 := Tryz.zeroValue179
  t139 := Tryz.underlying180
  a139 := Tryz.isAgg180
  z139 := Tryz.sizeOf180
  v139 := Tryz.zeroValue180
  g3 := by kernel_rfl
  g4 := by kernel_rfl }
open Go.RowKit Go.Lib in
theorem utf8_decodeRuneInStringSlow (s : ByteArray) (w : World) (hT : Lib.Utf8Tabs 2 3 w) :
    Calls Tryz.prog 80 #[.string s] w fun e w' => e = .returned (.tuple #[.int .i32 (Lib.decodeGo s).1, .int .i64 (Lib.decodeGo s).2]) ∧ Below w.heap.size w w' := Any.utf8_decodeRuneInStringSlow lays260 s w hT
def lays197_ren : Go.Shelf.Ren := ⟨fun | 197 => 69 | 260 => 80 | n => n, fun | 9 => 9 | 21 => 21 | 3 => 3 | 4 => 4 | 5 => 5 | 105 => 158 | 119 => 161 | 0 => 0 | 46 => 48 | 139 => 180 | 138 => 179 | n => n, fun | 3 => 2 | 4 => 3 | n => n⟩
theorem lays197 : Go.Proofs.Lays.n197 Tryz.prog lays197_ren := {
  mixed := by kernel_rfl
  f197 := Tryz.func69.trans (congrArg some (by kernel_rfl))
  f260 := Tryz.func80.trans (congrArg some (by kernel_rfl))
  t0 := Tryz.underlying0
  a0 := Tryz.isAgg0
  z0 := Tryz.sizeOf0
  v0 := Tryz.zeroValue0
  t3 := Tryz.underlying3
  a3 := Tryz.isAgg3
  z3 := Tryz.sizeOf3
  v3 := Tryz.zeroValue3
  t4 := Tryz.underlying4
  a4 := Tryz.isAgg4
  z4 := Tryz.sizeOf4
  v4 := Tryz.zeroValue4
  t5 := Tryz.underlying5
  a5 := Tryz.isAgg5
  z5 := Tryz.sizeOf5
  v5 := Tryz.zeroValue5
  t9 := Tryz.underlying9
  a9 := Tryz.isAgg9
  z9 := Tryz.sizeOf9
  v9 := Tryz.zeroValue9
  t21 := Tryz.underlying21
  a21 := Tryz.isAgg21
  z21 := Tryz.sizeOf21
  v21 := Tryz.zeroValue21
  t46 := Tryz.underlying48
  a46 := Tryz.isAgg48
  z46 := Tryz.sizeOf48
  v46 := Tryz.zeroValue48
  t105 := Tryz.underlying158
  a105 := Tryz.isAgg158
  z105 := Tryz.sizeOf158
  v105 := Tryz.zeroValue158
  t119 := Tryz.underlying161
  a119 := Tryz.isAgg161
  z119 := Tryz.sizeOf161
  t138 := Tryz.underlying179
  a138 := Tryz.isAgg179
  z138 := Tryz.sizeOf179
  v138 := Tryz.zeroValue179
  t139 := Tryz.underlying180
  a139 := Tryz.isAgg180
  z139 := Tryz.sizeOf180
  v139 := Tryz.zeroValue180
  g3 := by kernel_rfl
  g4 := by kernel_rfl }
open Go.RowKit Go.Lib in
/-- **unicode/utf8.DecodeRuneInString AT EVERY STRING.** (LAID: no walk: one application.) -/
theorem utf8_DecodeRuneInString (s : ByteArray) (w : World) (hT : Lib.Utf8Tabs 2 3 w) :
    Calls Tryz.prog 69 #[.string s] w fun e w' => e = .returned (.tuple #[.int .i32 (Lib.decodeGo s).1, .int .i64 (Lib.decodeGo s).2]) ∧ Below w.heap.size w w' := Any.utf8_DecodeRuneInString lays197 s w hT
end Go.Proofs.YtghcggagpagfoaaGreatDoor

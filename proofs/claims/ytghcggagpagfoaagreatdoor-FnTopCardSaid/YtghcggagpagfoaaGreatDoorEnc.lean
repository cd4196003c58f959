/-
  The encoder's state between two writes, and the writes on it (n001_1001).
-/
import Derived.Test.YtghcggagpagfoaaGreatDoorEsc
import Derived.Test.YtghcggagpagfoaaGreatDoorByt
import Derived.Test.YtghcggagpagfoaaGreatDoorShelf
import Derived.Test.YtghcggagpagfoaaGreatDoorRows
import Derived.Deep.RegionWith
namespace Go.Proofs.YtghcggagpagfoaaGreatDoor
set_option linter.unusedVariables false
open Go.ChangeShapes Go.WideShapes Go.ChangeAt Go.RowKit M
theorem metWB (x : Value) (w : World) : (method 310 51 x "WriteByte").run Tryz.prog w = .ok (44, x) w := by kernel_rfl
theorem metWS (x : Value) (w : World) : (method 310 51 x "WriteString").run Tryz.prog w = .ok (40, x) w := by kernel_rfl
theorem tabs_low {w w' : World} (h : Lib.Utf8Tabs 2 3 w) (hb : Below 4 w w') : Lib.Utf8Tabs 2 3 w' :=
  ⟨fun c hc => (hb.cell (p := ⟨2, c, none⟩) (by show 2 < 4; decide)).trans (h.1 c hc), fun i hi => ⟨(hb.cell (p := ⟨3, 2 * i, none⟩) (by show 3 < 4; decide)).trans (h.2 i hi).1, (hb.cell (p := ⟨3, 2 * i + 1, none⟩) (by show 3 < 4; decide)).trans (h.2 i hi).2⟩⟩
abbrev encI (bb : Nat) : Value := .iface 51 (.pointer (some ⟨bb, 0, none⟩))
/-- The builder bb holds l, the encoder at eb points to it, utf8's tables stand. -/
def EN (w0 : World) (B bb eb : Nat) (d : Option Nat) (l : List UInt8) (w : World) : Prop := BOut w0 B bb d l w ∧ (∃ cs : Array Value, Row w eb 170 cs ∧ cs[0]? = some (encI bb)) ∧ Lib.Utf8Tabs 2 3 w ∧ 4 ≤ B ∧ B ≤ w.heap.size
theorem EN.cell {w0 : World} {B bb eb : Nat} {d : Option Nat} {l : List UInt8} {w : World} (h : EN w0 B bb eb d l w) : w.cell? ⟨eb, 0, none⟩ = some (encI bb) := by
  obtain ⟨cs, hr, hc⟩ := h.2.1
  rw [hr.cell]
  exact hc
theorem EN.drew {w0 : World} {B bb eb : Nat} {d : Option Nat} {l : List UInt8} {w : World} (h : EN w0 B bb eb d l w) : EN w0 B bb eb d l w.drew := by
  obtain ⟨⟨d', h1, h2, ht⟩, ⟨cs, hr, hc⟩, hT, h2B, hB⟩ := h
  exact ⟨⟨d', h1.touch ((Touch.refl (fun _ => False) w).drew) (fun h => h) (fun _ _ h => h), h2, ht.drew⟩, ⟨cs, hr.touch ((Touch.refl (fun _ => False) w).drew) (fun h => h), hc⟩, tabs_low hT (Below.drew (Below.refl _ _)), h2B, hB⟩
theorem EN.next {w0 : World} {B bb eb : Nat} {d d' : Option Nat} {l l' : List UInt8} {w w' : World} (h1 : Bld w B bb d' l) (h2 : d' = d ∨ ∃ g, d' = some g ∧ w0.heap.size ≤ g) (ht : Touch (fun k => k = bb ∨ d = some k) w0 w) (hr : ∃ cs : Array Value, Row w eb 170 cs ∧ cs[0]? = some (encI bb)) (hT : Lib.Utf8Tabs 2 3 w) (h2B : 4 ≤ B) (hB : B ≤ w.heap.size) (ho : BOut w B bb d' l' w') : EN w0 B bb eb d l' w' :=
  ⟨BOut.then h2 ht ho, (by obtain ⟨cs, h, hc⟩ := hr; exact ⟨cs, ho.row h1 h (by decide) (by decide), hc⟩), tabs_low hT (ho.below h1 h2B), h2B, Nat.le_trans hB ho.size⟩
theorem EN.wstr {w0 : World} {B bb eb : Nat} {d : Option Nat} {l : List UInt8} {w : World} (h : EN w0 B bb eb d l w) (t : ByteArray) (hlen : l.length + t.size ≤ 140737488355328) :
    Calls Tryz.prog 40 #[.pointer (some ⟨bb, 0, none⟩), .string t] w fun e w' => e = .returned (.tuple #[.int .i64 t.size, .nilIface]) ∧ EN w0 B bb eb d (l ++ t.data.toList) w' := by
  obtain ⟨⟨d', h1, h2, ht⟩, hr, hT, h2B, hB⟩ := h
  refine (bstr w B bb d' l t h1 hlen hB).mono ?_
  rintro e w' ⟨rfl, ho⟩
  exact ⟨rfl, EN.next h1 h2 ht hr hT h2B hB ho⟩
theorem EN.wbyte {w0 : World} {B bb eb : Nat} {d : Option Nat} {l : List UInt8} {w : World} (h : EN w0 B bb eb d l w) (c : UInt8) (n : Int) (hn : n = c.toNat) (hlen : l.length + 1 ≤ 140737488355328) :
    Calls Tryz.prog 44 #[.pointer (some ⟨bb, 0, none⟩), .int .u8 n] w fun e w' => e = .returned .nilIface ∧ EN w0 B bb eb d (l ++ [c]) w' := by
  obtain ⟨⟨d', h1, h2, ht⟩, hr, hT, h2B, hB⟩ := h
  refine (bbyte w B bb d' l c n hn h1 hlen hB).mono ?_
  rintro e w' ⟨rfl, ho⟩
  exact ⟨rfl, EN.next h1 h2 ht hr hT h2B hB ho⟩
theorem EN.dec {w0 : World} {B bb eb : Nat} {d : Option Nat} {l : List UInt8} {w : World} (h : EN w0 B bb eb d l w) (s : ByteArray) :
    Calls Tryz.prog 69 #[.string s] w fun e w' => e = .returned (.tuple #[.int .i32 (Lib.decodeGo s).1, .int .i64 (Lib.decodeGo s).2]) ∧ EN w0 B bb eb d l w' := by
  obtain ⟨⟨d', h1, h2, ht⟩, hr, hT, h2B, hB⟩ := h
  refine (utf8_DecodeRuneInString s w hT).mono ?_
  rintro e w' ⟨rfl, hb⟩
  exact ⟨rfl, EN.next h1 h2 ht hr hT h2B hB ⟨d', h1.below hb, .inl rfl, Touch.of_below hb _⟩⟩
end Go.Proofs.YtghcggagpagfoaaGreatDoor

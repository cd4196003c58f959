/-
  The contract of zzSameSB, where the two hold the same bytes (n001_83).
-/
import Derived.Test.YtfbpffgcofdciaaDoorBase
import Derived.RegionTactic
import Derived.BigQuiet
namespace Go.Proofs.YtfbpffgcofdciaaDoor
set_option linter.unusedVariables false
open Go.ChangeShapes Go.WideShapes Go.ChangeAt Go.RowKit M
theorem OwnB.at' {w : World} {B : Nat} {A : Option Addr} {n c : Nat} {d : Option Nat} {l : List UInt8} (h : OwnB w B (.slice A n c) d l) {m : Nat} (hm : m < l.length) : ∃ g, A = some ⟨g, 0, none⟩ ∧ g < w.heap.size ∧ w.cell? ⟨g, m, none⟩ = some (.int .u8 l[m].toNat) := by
  rcases h.1.2 with ⟨hv, h0⟩ | ⟨g, cap, cur, hv, _, hg, _, _, _, htake⟩
  · omega
  · have hlt := (h.1.lt g (by rw [hv]; rfl)).2
    injection hv with h1 h2 h3
    have hx : l[m]? = some l[m] := List.getElem?_eq_getElem hm
    refine ⟨g, h1, hlt, ?_⟩
    have ht : (cur.toList.take (l.length * 1))[m]? = (Lib.byteCells l)[m]? := by rw [htake]
    rw [List.getElem?_take_of_lt (by omega)] at ht
    unfold World.cell?
    simp only [hg]
    have h9 : (Lib.byteCells l)[m]? = some (.int .u8 l[m].toNat) := by simp [Lib.byteCells, hx]
    rw [h9] at ht
    simpa using ht
theorem sameC (w : World) (a : ByteArray) (B : Nat) (A : Option Addr) (n c : Nat) (d : Option Nat) (h : OwnB w B (.slice A n c) d a.data.toList) (hn : n = a.size) (hm : a.size ≤ 1073741824) : Calls Tryd.prog 8 #[.string a, .slice A n c] w fun e w' => e = .returned (.bool true) ∧ Below w.heap.size w w' := by
  subst hn
  have H := Lib.hid h
  clear h
  go_enter Tryd.func8, Tryd.ntmps8
  go_wp2_with fail
  go_loopw [5] (fun i wr => ∃ k : Nat, k ≤ a.size ∧ i = .int .i64 k ∧ OwnB wr B (.slice A a.size c) d a.data.toList ∧ Below w.heap.size w wr) (fun i _ => a.size - (intOf i).toNat)
  case atStart => exact ⟨0, Nat.zero_le _, rfl, H.out, Below.refl _ _⟩
  case round =>
    obtain ⟨k, hk, rfl, ho, hb⟩ := hrel
    have HO := Lib.hid ho
    have HB := Lib.hid hb
    clear ho hb
    by_cases hlt : k < a.size
    · obtain ⟨g, rfl, hgl, hc⟩ := HO.out.at' (m := k) (by rw [Array.length_toList]; exact hlt)
      have hc' : wr.cell? ⟨g, k, none⟩ = some (.int .u8 a[k].toNat) := hc
      clear hc
      go_wp2_with fail
      go_region
      all_goals go_wp2_with fail
      all_goals exact ⟨⟨k + 1, by omega, by go_num, HO.out.below (Below.drew (Below.refl _ _)), HB.out.drew⟩, by simp [intOf]; omega⟩
    · obtain rfl : k = a.size := by omega
      go_wp2_with fail
      go_ret
      exact ⟨rfl, HB.out⟩
end Go.Proofs.YtfbpffgcofdciaaDoor

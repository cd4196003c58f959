/-
  Contracts of the laws' helpers (n001_84): appendStr, numQuery, arrLeaf, buildArray, Array.String, copies, counts.
-/
import Derived.Test.YtebcjlgeppebgaaDoorPr
import Derived.Test.YtebcjlgeppebgaaDoorByt
import Derived.Test.YtebcjlgeppebgaaDoorStrs
namespace Go.Proofs.YtebcjlgeppebgaaDoor
set_option linter.unusedVariables false
open Go.ChangeShapes Go.WideShapes Go.ChangeAt Go.RowKit M
set_option maxHeartbeats 2000000 in
theorem appendStr (w : World) (B : Nat) (v : Value) (d : Option Nat) (l : List UInt8) (s : ByteArray) (h : OwnB w B v d l) (hl : l.length + s.size ≤ 1073741824) (hB : B ≤ w.heap.size) :
    Calls Tryd.prog 28 #[v, .string s] w (AEnd w B d (l ++ s.data.toList)) := by
  have H := Lib.hid h
  obtain ⟨A, c, rfl⟩ := own_form h.1
  clear h
  go_enter Tryd.func28, Tryd.ntmps28
  go_wp2_with fail
  go_loopw [0, 5] (fun v i wr => ∃ (k : Nat) (A : Option Addr) (c n : Nat), k ≤ s.size ∧ i = .int .i64 k ∧ v = .slice A n c ∧ n = l.length + k ∧ AOut w B d (l ++ s.data.toList.take k) (.slice A n c) wr) (fun _ i _ => s.size - (intOf i).toNat)
  case atStart => exact ⟨0, A, c, _, Nat.zero_le _, rfl, rfl, rfl, by simpa using AOut.refl H.out⟩
  case round =>
    obtain ⟨k, A, c, n, hk, rfl, rfl, hn, ho⟩ := hrel
    have HN := Lib.hid hn
    have HO := Lib.hid ho
    have hsz : w.heap.size ≤ wr.heap.size := by obtain ⟨_, _, _, ht⟩ := ho; exact ht.size
    clear hn ho
    by_cases hlt : k < s.size
    · obtain ⟨d1, h1, h2, h3⟩ := HO.out
      have H1 := Lib.hid h1
      have H2 := Lib.hid h2
      have H3 := Lib.hid h3
      clear h1 h2 h3
      have hlen : (l ++ s.data.toList.take k).length + 1 ≤ 140737488355328 := by
        have : (s.data.toList.take k).length ≤ k := List.length_take_le _ _
        rw [List.length_append]
        omega
      have HL := Lib.hid hlen
      clear hlen
      go_wp2_with (at_builtin; refine wp_byte rfl _ _ rfl _ B (.slice A n c) d1 (l ++ s.data.toList.take k) rfl H1.out s[k] _ rfl rfl HL.out (by omega) ?_)
      intro v' w' ho
      obtain ⟨A', c', rfl⟩ := ho.form
      have HO2 := Lib.hid (AOut.then H2.out H3.out ho)
      clear ho
      go_wp2_with fail
      have hst := str_take s k hlt
      refine ⟨⟨k + 1, A', c', _, by omega, by go_num, rfl, ?_, ?_⟩, by simp [intOf]; omega⟩
      · rw [List.length_append, List.length_append, List.length_singleton, List.length_take, toList_len]
        omega
      · rw [hst]
        exact HO2.out
    · obtain rfl : k = s.size := by omega
      go_wp2_with fail
      go_ret
      have ho := HO.out
      rw [List.take_of_length_le (by rw [toList_len]; omega)] at ho
      have hn := HN.out
      rw [show n = (l ++ s.data.toList).length by rw [List.length_append, toList_len]; exact hn] at ho ⊢
      exact ⟨A, c, rfl, ho⟩
set_option maxHeartbeats 1000000 in
theorem numQ (w : World) (t : ByteArray) :
    Calls Tryd.prog 27 #[.string t] w fun e w' => ∃ n, e = .returned (pt n) ∧ IsQ w' n (.num t) ∧ Below w.heap.size w w' ∧ w.heap.size ≤ n := by
  go_enter Tryd.func27, Tryd.ntmps27
  go_wp2_with fail
  go_ret
  exact ⟨_, rfl, ⟨w.heap.size, Row.made' _ _ (by simp), (Row.made w _ _).alloc _⟩, ((Below.refl _ _).alloc (Nat.le_refl _) _).alloc (by simp) _, by simp⟩
set_option maxHeartbeats 1000000 in
theorem arrStr (w : World) (k : Nat) (o : Option Qy) (hr : ∃ v, Row w k 51 #[v] ∧ (match o with | none => v = np | some q => ∃ a, v = pt a ∧ IsQ w a q)) (hl : (prArr o []).length ≤ 140737488355328) :
    Calls Tryd.prog 20 #[pt k] w fun e w' => e = .returned (.string ⟨(prArr o []).toArray⟩) ∧ Below w.heap.size w w' := by
  have HL := Lib.hid hl
  have HR := Lib.hid hr
  clear hl hr
  go_enter Tryd.func20, Tryd.ntmps20
  go_wp2_with fail
  have hb0 := Bld.fresh w (Nat.le_refl _)
  have hbelow : Below w.heap.size w (w.alloc (.cells #[.pointer none, .slice none 0 0] tBld)) := (Below.refl _ _).alloc (Nat.le_refl _) _
  have hc : Calls Tryd.prog 39 #[pt k, pt w.heap.size] (w.alloc (.cells #[.pointer none, .slice none 0 0] tBld)) (POut (w.alloc (.cells #[.pointer none, .slice none 0 0] tBld)) w.heap.size w.heap.size none (prArr o [])) := by
    obtain ⟨v, hrow, hm⟩ := HR.out
    have hrow' := hrow.keep hbelow hrow.lt
    cases o with
    | none =>
      subst hm
      exact arrNone _ _ _ _ _ k hrow' hb0 HL.out (by simp)
    | some q =>
      obtain ⟨a, rfl, hi⟩ := hm
      exact arrSome q (wq q) _ _ _ _ _ k a hrow' (hi.keep (KeepN.below hbelow)) hb0 HL.out (by simp)
  refine hc.mono ?_
  rintro e w1 ⟨rfl, ho⟩
  obtain ⟨d1, hb1, hd1, ht1, hk1, hz1⟩ := POut.parts hb0 ho
  have HBL := Lib.hid (hbelow.trans (ho.below hb0 (Nat.le_refl _)))
  clear hb0 hbelow hc ho
  go_wp2_with fail
  refine (bstring _ _ _ d1 _ hb1.out).mono ?_
  rintro e w2 ⟨rfl, hs⟩
  have HB2 := Lib.hid (HBL.out.trans (hs.out.below hb1.out (Nat.le_refl _)))
  clear hs
  go_wp2_with fail
  go_ret
  exact ⟨rfl, HB2.out⟩
end Go.Proofs.YtebcjlgeppebgaaDoor

/-
  The law's reader of a text (n001_1001): zMatchString.
-/
import Derived.Test.YtgbkjdndbjaeoaaDoorLit
import Derived.Deep.RegionWith
import Derived.Deep.CutRange
namespace Go.Proofs.YtgbkjdndbjaeoaaDoor
set_option linter.unusedVariables false
set_option linter.unusedSimpArgs false
open Go.ChangeShapes Go.WideShapes Go.ChangeAt Go.RowKit M
set_option maxRecDepth 100000 in
set_option maxHeartbeats 4000000 in
theorem mtsC (w : World) (pb : Nat) (S s : ByteArray) (L : List UInt8) (h : ZP w pb S (quoted s ++ L)) (hs : S.size ≤ 1099511627776) (hss : s.size ≤ 1048576) : Calls Tryd.prog 17 #[.pointer (some ⟨pb, 0, none⟩), .string s] w fun e w' => e = .returned (.bool true) ∧ ZP w' pb S L ∧ Touch (fun k => k = pb) w w' := by
  obtain ⟨i, hi, hil, hd⟩ := h.at
  have hr := h.row
  have hsuf := h.suf
  rw [hi] at hr
  have HR := Lib.hid hr
  have hrd : Row w.drew pb 35 #[.string S, .int .i64 i] := hr
  have y0 := hrd.cell 0
  have y1 := hrd.cell 1
  have lp := hr.lt
  have hql : quoted s ++ L = 34 :: (tail s 0 ++ 34 :: L) := by simp [quoted]
  have hlt : i < S.size := by rw [hql] at hil; simp at hil; omega
  have hd1 : S.data.toList.drop (i + 1) = tail s 0 ++ 34 :: L := by
    rw [← List.drop_drop, hd, hql]; rfl
  have h34 : S[i] = 34 := by
    have : S.data.toList[i]? = some 34 := by
      have := congrArg (fun l => l[0]?) hd
      simp only [List.getElem?_drop, Nat.add_zero, hql, List.getElem?_cons_zero] at this
      exact this
    have h2 := (List.getElem?_eq_some_iff.1 this).2
    show S.data[i] = 34
    simpa using h2
  obtain ⟨E, hE⟩ : ∃ E : Nat, E + L.length = S.size := ⟨S.size - L.length, by rw [hql] at hil; simp at hil; omega⟩
  obtain ⟨f0, hu⟩ := uq_tail L s s.size 0 (by omega) (by omega)
  rw [← hd1] at hu
  have HU : Hid (∀ W, Calls Tryd.prog 26 #[.string S, .int .i64 i] W fun e w' => e = .returned (.tuple #[.string ⟨(fixT s 0).toArray⟩, .int .i64 E, .bool true]) ∧ Below W.heap.size W w') := Lib.hid (fun W => unqC W S (fixT s 0) L i E f0 hs hlt h34 hE hu)
  have HSUF := Lib.hid hsuf
  have HRD := Lib.hid hrd
  have HQL := Lib.hid hql
  have HE := Lib.hid hE
  clear h hr hi hrd hql hil hd hd1 h34 hu hsuf hlt hE
  go_enter Tryd.func17, Tryd.ntmps17
  go_wp2_with fail
  go_region_with (go_at_call 26; refine (HU.out _).mono ?_; rintro e w1 ⟨rfl, hb1⟩; have HB1 := Lib.hid hb1; have hs1 := hb1.size; have r1 := HRD.out.keep hb1 lp; have R1 := Lib.hid r1; have c1 := r1.cell 1; have f1 := r1.free 1; have l1 := r1.lt; clear hb1 r1)
  all_goals go_upto_region 5 with fail
  all_goals (
    obtain ⟨w2, hw2⟩ : ∃ w2, w2 = w1.setCell ⟨pb, 1, none⟩ (.int .i64 E) := ⟨_, rfl⟩
    rw [← hw2]
    have R2 : Hid (Row w2 pb 35 #[.string S, .int .i64 E]) := Lib.hid (by rw [hw2]; exact R1.out.put 1 _)
    have T2 : Hid (Touch (fun k => k = pb) w w2) := Lib.hid (by rw [hw2]; exact (((Touch.refl (fun k => k = pb) w).drew).trans (Touch.of_below HB1.out _)).setCell (fun _ => rfl) _)
    clear hw2 c1 f1
    obtain ⟨cap, w3, hc1, hb3, hc2⟩ := conv_runes s w2 hss
    have l2 := R2.out.lt
    have hs3 := hb3.size
    have HB3 := Lib.hid hb3
    clear hb3
    go_wp2_with fail
    go_ret
    refine ⟨?_, ⟨?_, ?_⟩, T2.out.trans (Touch.of_below HB3.out _)⟩
    · rfl
    · have e : (E : Int) = (S.size : Int) - L.length := by have := HE.out; omega
      rw [← e]
      exact R2.out.keep HB3.out l2
    · obtain ⟨pre, hp⟩ := HSUF.out
      exact ⟨pre ++ quoted s, by rw [hp, List.append_assoc]⟩)
end Go.Proofs.YtgbkjdndbjaeoaaDoor

/-
  ltrim of a string and of an int; the laws' helpers; the table of white space as the card lays it (n001_95).
-/
import Derived.Test.YtnbfphjkpicajaaDoorSpc
import Derived.Test.YtnbfphjkpicajaaDoorShelf
import Derived.Test.YtnbfphjkpicajaaDoorArgs
import Derived.Test.YtnbfphjkpicajaaDoorRows
import Derived.Lib.LaidU8
import Derived.MakeChecks
import Derived.RegionTactic
import Derived.BigQuiet
namespace Go.Proofs.YtnbfphjkpicajaaDoor
set_option linter.unusedVariables false
open Go.ChangeShapes Go.WideShapes Go.ChangeAt Go.RowKit M
theorem white_of_laid {w : World} (h : laidMetH Tryd.prog Rows.fnLtrimExactRow.laid w) : Lib.WhiteTab (lays199_ren.g 6) w := by
  rw [MakeChecks.laidMetH_plain _ _ _ (by kernel_rfl)] at h
  have e : Rows.fnLtrimExactRow.laid = [("unicode.White_Space", Lib.whiteData)] := by kernel_rfl
  have h' : laidMet Tryd.prog [("unicode.White_Space", Lib.whiteData)] w := by rw [← e]; exact h
  exact whiteTab_of_reads (ρ := lays199_ren) lays199 ⟨by kernel_rfl, by kernel_rfl, by kernel_rfl, by kernel_rfl, by kernel_rfl, by kernel_rfl, by kernel_rfl, by kernel_rfl⟩ (Lib.laidMet.reads h' (.head _))
theorem white_of_laidB {w : World} (h : laidMetH Tryd.prog Rows.fnLtrimIdempotentSuffixRow.laid w) : Lib.WhiteTab (lays199_ren.g 6) w := white_of_laid h
theorem space_at (w : World) (hW : Lib.WhiteTab (lays199_ren.g 6) w) : PredAtRunes Tryd.prog 14 #[] Lib.isSpaceR w := fun W x hx hb => by
  have c := Any.unicode_IsSpace_any_d lays199 (x : Int) W (by omega) (by omega) (WhiteTab_below hW hb)
  rw [Lib.isSpaceZ_nat] at c
  exact c
/-- A string without its leading white space. -/
def trs (s : ByteArray) : ByteArray := ⟨(tr s.data.toList).toArray⟩
theorem trs_list (s : ByteArray) : (trs s).data.toList = tr s.data.toList := by simp [trs]
theorem left_trF (s : ByteArray) : ∀ f k, s.size - k ≤ f → k ≤ s.size → (Lib.idxFuncFrom Lib.isSpaceR false s f k = -1 ∧ tr (s.data.toList.drop k) = []) ∨ (∃ j : Nat, Lib.idxFuncFrom Lib.isSpaceR false s f k = (j : Int) ∧ j < s.size ∧ tr (s.data.toList.drop k) = s.data.toList.drop j)
  | 0, k, h, hk => by
    left
    have hd : s.data.toList.drop k = [] := List.drop_of_length_le (by rw [Array.length_toList]; show s.size ≤ k; omega)
    exact ⟨rfl, by rw [hd]; rfl⟩
  | f + 1, k, h, hk => by
    unfold Lib.idxFuncFrom
    by_cases hlt : k < s.size
    · rw [if_pos hlt]
      have hd := Lib.decodeL_drop s k
      have hl : (s.data.toList.drop k).length = s.size - k := by rw [List.length_drop, Array.length_toList]; rfl
      have hne : s.data.toList.drop k ≠ [] := List.length_pos_iff.1 (by omega)
      have hw := Lib.decodeL_width (s.data.toList.drop k)
      have hle := Lib.decodeL_le _ hne
      rw [hd] at hw hle
      cases hs : Lib.isSpaceR (Utf8.decode s k).1 with
      | true =>
        rw [if_neg (by decide), tr_space _ hne (by rw [hd]; exact hs), hd, List.drop_drop]
        exact left_trF s f (k + (Utf8.decode s k).2) (by omega) (by omega)
      | false =>
        rw [if_pos rfl, tr_stop _ hne (by rw [hd]; exact hs)]
        exact .inr ⟨k, rfl, hlt, rfl⟩
    · rw [if_neg hlt]
      left
      have hd : s.data.toList.drop k = [] := List.drop_of_length_le (by rw [Array.length_toList]; show s.size ≤ k; omega)
      exact ⟨rfl, by rw [hd]; rfl⟩
theorem trimF_tr (s : ByteArray) : Lib.trimLeftF Lib.isSpaceR s = trs s := by
  refine ba_ext ?_
  rw [trs_list]
  unfold Lib.trimLeftF
  have h := left_trF s s.size 0 (by omega) (Nat.zero_le _)
  rw [List.drop_zero] at h
  change (Lib.idxFunc Lib.isSpaceR false s = -1 ∧ _) ∨ (∃ j : Nat, Lib.idxFunc Lib.isSpaceR false s = (j : Int) ∧ _) at h
  rcases h with ⟨h1, h2⟩ | ⟨j, h1, h2, h3⟩
  · rw [if_pos h1, h2]
  · rw [if_neg (by omega), h1, Int.toNat_natCast, extract_tail, h3]
@[go_sem] theorem as9_9 (v : Value) (w : World) : (Instr.typeAssert (.iface 9 v) 20 9 true).run Tryd.prog w = .ok (.tuple #[v, .bool true]) w := by kernel_rfl
@[go_sem] theorem as3_9 (v : Value) (w : World) : (Instr.typeAssert (.iface 3 v) 20 9 true).run Tryd.prog w = .ok (.tuple #[.string ByteArray.empty, .bool false]) w := by kernel_rfl
@[go_sem] theorem as31_31 (v : Value) (w : World) : (Instr.typeAssert (.iface 31 v) 20 31 true).run Tryd.prog w = .ok (.tuple #[v, .bool true]) w := by kernel_rfl
theorem trimC (w : World) (s : ByteArray) (hW : Lib.WhiteTab (lays199_ren.g 6) w) :
    Calls Tryd.prog 12 #[.iface 9 (.string s)] w fun e w' => e = .returned (.iface 9 (.string (trs s))) ∧ Below w.heap.size w w' := by
  have HW := Lib.hid hW
  clear hW
  go_enter Tryd.func12, Tryd.ntmps12
  go_wp2_with fail
  refine (Any.strings_TrimLeftFunc_runes lays272 14 #[] (enters_of Tryd.func14 (by kernel_rfl) rfl) Lib.isSpaceR s w (space_at w HW.out)).mono ?_
  rintro e w1 ⟨rfl, hb⟩
  rw [trimF_tr]
  have HB := Lib.hid hb
  clear hb
  go_wp2_with fail
  go_ret
  exact ⟨rfl, HB.out⟩
theorem trimZ (w : World) (s : ByteArray) (hW : Lib.WhiteTab (lays199_ren.g 6) w) :
    Calls Tryd.prog 6 #[.string s] w fun e w' => e = .returned (.tuple #[.string (trs s), .bool true]) ∧ Below w.heap.size w w' := by
  have HW := Lib.hid hW
  clear hW
  go_enter Tryd.func6, Tryd.ntmps6
  go_wp2_with fail
  refine (trimC w s HW.out).mono ?_
  rintro e w1 ⟨rfl, hb⟩
  have HB := Lib.hid hb
  clear hb
  go_wp2_with fail
  go_ret2
  exact ⟨rfl, HB.out⟩
theorem trimInt (w : World) (n : Int) :
    Calls Tryd.prog 12 #[.iface 3 (.int .i64 n)] w fun e w' => (∃ g, e = .returned (.iface 31 (.pointer (some ⟨g, 0, none⟩)))) ∧ Below w.heap.size w w' := by
  go_enter Tryd.func12, Tryd.ntmps12
  go_wp2_with fail
  go_ret
  exact ⟨⟨_, rfl⟩, (Below.refl _ _).alloc (Nat.le_refl _) _⟩
theorem intZ (w : World) (n : Int) : Calls Tryd.prog 8 #[.int .i64 n] w fun e w' => e = .returned (.bool true) ∧ Below w.heap.size w w' := by
  go_enter Tryd.func8, Tryd.ntmps8
  go_wp2_with fail
  refine (trimInt w n).mono ?_
  rintro e w1 ⟨⟨g, rfl⟩, hb⟩
  have HB := Lib.hid hb
  clear hb
  go_wp2_with fail
  go_ret
  exact ⟨rfl, HB.out⟩
theorem bytesA (s : ByteArray) (n : Int) (w : World) : Calls Tryd.prog 5 #[.string s, .int .i64 n] w fun e w' => (∃ b : Bool, e = .returned (.bool b) ∧ (b = true → s.size ≤ 1048576)) ∧ w' = w := by
  by_cases h1 : s.size ≤ 1048576
  · go_enter Tryd.func5, Tryd.ntmps5
    go_wp2_with fail
    go_ret
    exact ⟨⟨true, rfl, fun _ => h1⟩, rfl⟩
  · go_enter Tryd.func5, Tryd.ntmps5
    go_wp2_with fail
    go_ret
    exact ⟨⟨false, rfl, fun h => by cases h⟩, rfl⟩
theorem bytesB (s : ByteArray) (w : World) : Calls Tryd.prog 9 #[.string s] w fun e w' => (∃ b : Bool, e = .returned (.bool b) ∧ (b = true → s.size ≤ 1048576)) ∧ w' = w := by
  by_cases h1 : s.size ≤ 1048576
  · go_enter Tryd.func9, Tryd.ntmps9
    go_wp2_with fail
    go_ret
    exact ⟨⟨true, rfl, fun _ => h1⟩, rfl⟩
  · go_enter Tryd.func9, Tryd.ntmps9
    go_wp2_with fail
    go_ret
    exact ⟨⟨false, rfl, fun h => by cases h⟩, rfl⟩
set_option maxRecDepth 100000 in
theorem modelC (w : World) (s : ByteArray) (hs : s.size ≤ 1048576) : Calls Tryd.prog 7 #[.string s] w fun e w' => e = .returned (.string (trs s)) ∧ w' = w := by
  go_enter Tryd.func7, Tryd.ntmps7
  go_wp2_with fail
  go_loopw [3] (fun i wr => ∃ k : Nat, i = .int .i64 k ∧ k ≤ s.size ∧ Hid (tr (s.data.toList.drop k) = tr s.data.toList) ∧ wr = w) (fun i _ => s.size - (intOf i).toNat)
  case atStart => exact ⟨0, rfl, Nat.zero_le _, Lib.hid (by rw [List.drop_zero]), rfl⟩
  case round =>
    obtain ⟨k, rfl, hk, HT, rfl⟩ := hrel
    by_cases hlt : k < s.size
    · obtain ⟨m, hm⟩ : ∃ m, m = spc s k := ⟨_, rfl⟩
      have HS : SpIs s k m := by rw [hm]; exact spcC s k hlt (by omega)
      have hd := Lib.decodeL_drop s k
      have hl : (s.data.toList.drop k).length = s.size - k := by rw [List.length_drop, Array.length_toList]; rfl
      have hne : s.data.toList.drop k ≠ [] := List.length_pos_iff.1 (by omega)
      have hle := Lib.decodeL_le _ hne
      rw [hd, hl] at hle
      rcases spc_dec s k hlt with ⟨h1, h2, h3⟩ | ⟨h1, h2⟩
      · rw [← hm] at h2 h3
        have HN := Lib.hid (show tr (s.data.toList.drop (k + m)) = tr s.data.toList by
          rw [← HT.out, tr_space _ hne (by rw [hd]; exact h1), hd, h2, List.drop_drop])
        have hkm : k + m ≤ s.size := by omega
        have hmz : ((m : Int) == 0) = false := by simp; omega
        clear h1 h2 hd hl hne hle hm
        go_wp2_with fail
        refine (HS _).mono ?_
        rintro e w' ⟨rfl, rfl⟩
        go_wp2_with fail
        exact ⟨⟨k + m, by go_num, by omega, HN, trivial⟩, by simp [intOf]; omega⟩
      · rw [← hm] at h2
        have HF : Hid (s.extract k s.size = trs s) := Lib.hid (ba_ext (by rw [extract_tail, trs_list, ← HT.out, tr_stop _ hne (by rw [hd]; exact h1)]))
        clear h1 hd hl hne hle hm
        subst h2
        go_wp2_with fail
        refine (HS _).mono ?_
        rintro e w' ⟨rfl, rfl⟩
        go_wp2_with fail
        go_ret
        exact ⟨by rw [← HF.out]; rfl, rfl⟩
    · obtain rfl : k = s.size := by omega
      have HF : Hid (ByteArray.empty = trs s) := Lib.hid (ba_ext (by
        rw [trs_list, ← HT.out, List.drop_of_length_le (by rw [Array.length_toList]; exact Nat.le_refl _)]
        rfl))
      go_wp2_with fail
      go_ret
      exact ⟨by rw [← HF.out]; rfl, rfl⟩
set_option maxRecDepth 100000 in
theorem sufC (w : World) (s t : ByteArray) (hs : s.size ≤ 1073741824) (hle : t.size ≤ s.size) (ht : t.data.toList = s.data.toList.drop (s.size - t.size)) :
    Calls Tryd.prog 10 #[.string s, .string t] w fun e w' => e = .returned (.bool true) ∧ Below w.heap.size w w' := by
  have HT := Lib.hid ht
  clear ht
  go_enter Tryd.func10, Tryd.ntmps10
  go_wp2_with fail
  go_loopw [6] (fun i wr => ∃ k : Nat, k ≤ t.size ∧ i = .int .i64 k ∧ Below w.heap.size w wr) (fun i _ => t.size - (intOf i).toNat)
  case atStart => exact ⟨0, Nat.zero_le _, rfl, Below.refl _ _⟩
  case round =>
    obtain ⟨k, hk, rfl, hb⟩ := hrel
    have HB := Lib.hid hb
    clear hb
    by_cases hlt : k < t.size
    · have hlt2 : s.size - t.size + k < s.size := by omega
      have i1 : (0 : Int) ≤ (s.size : Int) - (t.size : Int) + (k : Int) := by omega
      have i2 : (s.size : Int) - (t.size : Int) + (k : Int) < (s.size : Int) := by omega
      have i3 : IntKind.i64.wrap ((s.size : Int) - (t.size : Int) + (k : Int)) = (s.size : Int) - (t.size : Int) + (k : Int) := IntWalk.i64_in _ (by omega)
      have i4 : ((s.size : Int) - (t.size : Int) + (k : Int)).toNat = s.size - t.size + k := by omega
      have he : s[s.size - t.size + k] = t[k] := by
        have h1 : t.data.toList[k]? = some t[k] := List.getElem?_eq_getElem (by rw [Array.length_toList]; exact hlt)
        rw [HT.out, List.getElem?_drop] at h1
        have h2 : s.data.toList[s.size - t.size + k]? = some s[s.size - t.size + k] := List.getElem?_eq_getElem (by rw [Array.length_toList]; exact hlt2)
        rw [h2] at h1
        exact Option.some.inj h1
      have h1 : ((s[s.size - t.size + k].toNat : Int) != (t[k].toNat : Int)) = false := by simp [he]
      clear he
      go_wp2_with fail
      go_region
      all_goals go_wp2_with fail
      all_goals exact ⟨⟨k + 1, by omega, by go_num, HB.out.drew⟩, by simp [intOf]; omega⟩
    · obtain rfl : k = t.size := by omega
      go_wp2_with fail
      go_ret
      exact ⟨rfl, HB.out⟩
end Go.Proofs.YtnbfphjkpicajaaDoor

/-
  The walk of FnJsonEncodeStringBounds (n001_83).
-/
import Derived.Test.YtfbpffgcofdciaaDoorTop
import Derived.Test.YtfbpffgcofdciaaDoorVal
import Derived.Deep.CutRange
namespace Go.Proofs.YtfbpffgcofdciaaDoor
set_option linter.unusedVariables false
open Go.ChangeShapes Go.WideShapes Go.ChangeAt Go.RowKit M
theorem tabs_of_laidB {w : World} (h : laidMetH Tryd.prog Rows.fnJsonEncodeStringBoundsRow.laid w) : Lib.Utf8Tabs 0 1 w := tabs_of_laid h
theorem extract_list (b : ByteArray) (i j : Nat) (hj : j = b.size) : (b.extract i j).data.toList = b.data.toList.drop i := by
  subst hj
  have h : b.data.toList.length = b.size := Array.length_toList
  simp [List.extract_eq_take_drop]
  exact List.take_of_length_le (by rw [List.length_drop, h]; exact Nat.le_refl _)
theorem at_list {r : ByteArray} {L : List UInt8} (h : r.data.toList = L) {k : Nat} (hk : k < r.size) {b : UInt8} (hb : L[k]? = some b) : r[k] = b := by
  subst h
  have := (List.getElem?_eq_some_iff.1 hb).2
  rw [← this]
  rfl
theorem mem_list {r : ByteArray} {L : List UInt8} (h : r.data.toList = L) {k : Nat} (hk : k < r.size) : r[k] ∈ L := by
  subst h
  exact List.getElem_mem (by rw [Array.length_toList]; exact hk)
set_option maxRecDepth 100000 in
set_option maxHeartbeats 8000000 in
theorem fnJsonEncodeStringBounds.walk (a0 : ByteArray) (a1 : ByteArray) (w : World) (hT : Lib.Utf8Tabs 0 1 w) (w0 : a0.size ≤ maxLen) (w1 : a1.size ≤ maxLen) :
    Calls Tryd.prog 4 #[.string a0, .string a1] w fun e w' => e = .returned (.bool true) ∧ Below w.heap.size w w' := by
  have HT := Lib.hid hT
  clear hT
  go_enter Tryd.func4, Tryd.ntmps4
  go_wp2_with fail
  refine (bytesB a0 a1 w).mono ?_
  rintro e w' ⟨⟨b, rfl, hb⟩, rfl⟩
  cases b
  · clear hb
    go_wp2_with fail
    go_ret
    exact ⟨rfl, Below.refl _ _⟩
  · obtain ⟨h1, h2, h3⟩ := hb rfl
    clear hb
    go_wp2_with fail
    refine (afterC w' a0 a1 HT.out h1 h2).mono ?_
    rintro e u1 ⟨rfl, hb1⟩
    obtain ⟨got, hgot⟩ : ∃ g : ByteArray, g = ⟨(a0.data.toList ++ quoted a1).toArray⟩ := ⟨_, rfl⟩
    rw [← hgot]
    have HG := Lib.hid (show got.data.toList = a0.data.toList ++ quoted a1 by rw [hgot])
    have HB1 := Lib.hid hb1
    clear hgot hb1
    have hgs : got.size = a0.size + (quoted a1).length := by
      rw [show got.size = got.data.toList.length by rw [Array.length_toList]; rfl, HG.out, List.length_append, Array.length_toList]
      rfl
    have hql := quoted_len a1
    obtain ⟨q, hq⟩ : ∃ q, q = (quoted a1).length := ⟨_, rfl⟩
    rw [← hq] at hgs hql
    obtain ⟨hq1, hq2⟩ := hql
    have HQ := Lib.hid hq
    clear hq
    go_wp2_with fail
    go_loopw [6] (fun i wr => ∃ k : Nat, k ≤ a0.size ∧ i = .int .i64 k ∧ Below w'.heap.size w' wr) (fun i _ => a0.size - (intOf i).toNat)
    case atStart => exact ⟨0, Nat.zero_le _, rfl, HB1.out⟩
    case round =>
      obtain ⟨k, hk, rfl, hb⟩ := hrel
      have HB := Lib.hid hb
      clear hb
      by_cases hlt : k < a0.size
      · have hgk : k < got.size := by omega
        have he : got[k] = a0[k] := at_list HG.out hgk (by
          rw [List.getElem?_append_left (by rw [Array.length_toList]; exact hlt)]
          exact List.getElem?_eq_getElem (by rw [Array.length_toList]; exact hlt))
        go_wp2_with fail
        go_region
        all_goals go_wp2_with fail
        all_goals exact ⟨⟨k + 1, by omega, by go_num, HB.out.drew⟩, by simp [intOf]; omega⟩
      · obtain rfl : k = a0.size := by omega
        go_upto_region 14 with fail
        obtain ⟨r, hr⟩ : ∃ r, r = got.extract a0.size (a0.size + q) := ⟨_, rfl⟩
        simp only [← hr]
        have HR := Lib.hid (show r.data.toList = quoted a1 by
          rw [hr, extract_list got _ _ hgs.symm, HG.out, List.drop_left' (by rw [Array.length_toList]; rfl)])
        have hrs : r.size = q := by
          rw [show r.size = r.data.toList.length by rw [Array.length_toList]; rfl, HR.out, HQ.out]
        clear hr
        subst hrs
        have i0 : 0 < r.size := by omega
        have iL : r.size - 1 < r.size := by omega
        have r0 : r[0] = 34 := at_list HR.out i0 (by simp [quoted])
        have rL : r[r.size - 1] = 34 := at_list HR.out iL (by
          rw [HQ.out]
          unfold quoted
          rw [List.length_append, List.getElem?_append_right (by simp)]
          simp)
        have n0 : r[0].toNat = 34 := by rw [r0]; rfl
        have nL : r[r.size - 1].toNat = 34 := by rw [rL]; rfl
        go_wp2_with fail
        clear r0 rL n0 nL
        go_loopw [8] (fun i wr2 => ∃ k : Nat, k ≤ r.size ∧ i = .int .i64 k ∧ wr2 = wr) (fun i _ => r.size - (intOf i).toNat)
        case atStart => exact ⟨0, Nat.zero_le _, rfl, rfl⟩
        case round =>
          obtain ⟨k, hk, rfl, rfl⟩ := hrel
          by_cases hlt : k < r.size
          · obtain ⟨q1, q2⟩ := quoted_ok a1 _ (mem_list HR.out hlt)
            have p32 : decide ((r[k].toNat : Int) < 32) = false := decide_eq_false (by omega)
            have p127 : ((r[k].toNat : Int) == 127) = false := by simp; omega
            go_wp2_with fail
            exact ⟨⟨k + 1, by omega, by go_num, trivial⟩, by simp [intOf]; omega⟩
          · obtain rfl : k = r.size := by omega
            obtain ⟨f, hv⟩ := quoted_vu r a1 HR.out
            have HV := Lib.hid hv
            clear hv
            go_wp2_with fail
            refine (validC _ r f HV.out (by omega)).mono ?_
            rintro e w3 ⟨rfl, rfl⟩
            go_wp2_with fail
            have ht1 : r.data.toList.drop 1 = tail a1 0 ++ [34] := by rw [HR.out]; simp [quoted]
            have hl1 : 1 + (tail a1 0).length + 1 = r.size := by
              rw [show r.size = r.data.toList.length by rw [Array.length_toList]; rfl, HR.out]
              unfold quoted
              simp
              omega
            have HS := Lib.hid (show r.data.toList.drop 1 = tail a1 0 ++ [34] ∧ tk (tail a1 0) from ⟨ht1, tail_tk a1 a1.size 0 (by omega) (by omega)⟩)
            have HB2 := HB
            clear ht1
            go_loopw [9] (fun i wr3 => ∃ (k : Nat) (X : List UInt8), i = .int .i64 k ∧ k + X.length + 1 = r.size ∧ Hid (r.data.toList.drop k = X ++ [34] ∧ tk X) ∧ wr3 = w3) (fun i _ => r.size - (intOf i).toNat)
            case atStart => exact ⟨1, _, rfl, hl1, HS, rfl⟩
            case round =>
              obtain ⟨k, X, rfl, hkx, HX, rfl⟩ := hrel
              cases X with
              | nil =>
                have hk0 : r.size = k + 1 := by simpa using hkx.symm
                go_wp2_with fail
                go_ret
                exact ⟨rfl, HB2.out⟩
              | cons b t =>
                rw [List.length_cons] at hkx
                have hin : k < r.size := by omega
                have hrb : r[k] = b := by
                  have := (drop_at (t := 0) HX.out.1 rfl).2
                  rw [Nat.add_zero, get_bang r k hin] at this
                  exact this
                by_cases h92 : b = 92
                · subst h92
                  cases t with
                  | nil => exact absurd rfl HX.out.2.1
                  | cons c t2 =>
                    have hn : r.data.toList.drop (k + 2) = t2 ++ [34] := drop_next (A := [92, c]) HX.out.1
                    have htk : tk t2 := by
                      rcases HX.out.2 with h | h
                      · exact h.2
                      · exact absurd rfl h.1
                    have HN := Lib.hid (And.intro hn htk)
                    clear hn htk
                    have n92 : r[k].toNat = 92 := by rw [hrb]; rfl
                    rw [List.length_cons] at hkx
                    clear hrb
                    go_wp2_with fail
                    exact ⟨⟨k + 2, t2, by go_num, by omega, HN, trivial⟩, by simp [intOf]; omega⟩
                · have hn : r.data.toList.drop (k + 1) = t ++ [34] := drop_next (A := [b]) HX.out.1
                  have htk : b ≠ 34 ∧ tk t := by
                    have h := HX.out.2
                    cases t with
                    | nil => exact ⟨h.2, trivial⟩
                    | cons c t2 =>
                      rcases h with h | h
                      · exact absurd h.1 h92
                      · exact h.2
                  have HN := Lib.hid (And.intro hn htk.2)
                  have n92 : ((r[k].toNat : Int) == 92) = false := by
                    rw [hrb]
                    simp
                    intro e
                    exact h92 (UInt8.toNat_inj.1 (by have : (92 : UInt8).toNat = 92 := rfl; omega))
                  have n34 : ((r[k].toNat : Int) == 34) = false := by
                    rw [hrb]
                    simp
                    intro e
                    exact htk.1 (UInt8.toNat_inj.1 (by have : (34 : UInt8).toNat = 34 := rfl; omega))
                  clear hn htk hrb h92
                  go_wp2_with fail
                  exact ⟨⟨k + 1, t, by go_num, by omega, HN, trivial⟩, by simp [intOf]; omega⟩
end Go.Proofs.YtfbpffgcofdciaaDoor

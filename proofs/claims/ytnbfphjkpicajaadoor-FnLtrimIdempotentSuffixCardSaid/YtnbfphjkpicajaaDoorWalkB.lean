/-
  The walk of FnLtrimIdempotentSuffix (n001_95).
-/
import Derived.Test.YtnbfphjkpicajaaDoorTop
namespace Go.Proofs.YtnbfphjkpicajaaDoor
set_option linter.unusedVariables false
open Go.ChangeShapes Go.WideShapes Go.ChangeAt Go.RowKit M
theorem trs_size (s : ByteArray) : (trs s).size ≤ s.size ∧ (trs s).data.toList = s.data.toList.drop (s.size - (trs s).size) := by
  obtain ⟨_, k, hk, h⟩ := tr_end _ s.data.toList (Nat.le_refl _)
  have hl : s.data.toList.length = s.size := Array.length_toList
  have h2 : (trs s).size = s.size - k := by
    rw [show (trs s).size = (trs s).data.toList.length by rw [Array.length_toList]; rfl, trs_list, h, List.length_drop, hl]
  rw [hl] at hk
  refine ⟨by omega, ?_⟩
  rw [trs_list, h, h2, show s.size - (s.size - k) = k by omega]
theorem trs_trs (s : ByteArray) : trs (trs s) = trs s := by
  refine ba_ext ?_
  rw [trs_list, trs_list, tr_tr]
theorem trs_spc (s : ByteArray) (h : 0 < (trs s).size) : spc (trs s) 0 = 0 := by
  rcases spc_dec (trs s) 0 h with ⟨h1, _⟩ | ⟨_, h2⟩
  · exfalso
    have hd := Lib.decodeL_drop (trs s) 0
    rw [List.drop_zero, trs_list] at hd
    rcases (tr_end _ s.data.toList (Nat.le_refl _)).1 with h3 | ⟨_, h3⟩
    · have : (trs s).size = 0 := by
        rw [show (trs s).size = (trs s).data.toList.length by rw [Array.length_toList]; rfl, trs_list, h3]
        rfl
      omega
    · rw [hd, h1] at h3
      cases h3
  · exact h2
theorem trs_pre (s p : ByteArray) (hp : p.data.toList = pre) : trs (p ++ s) = trs s := by
  refine ba_ext ?_
  rw [trs_list, trs_list]
  have : (p ++ s).data.toList = pre ++ s.data.toList := by
    rw [← hp]
    simp
  rw [this, tr_pre]
set_option maxRecDepth 100000 in
set_option maxHeartbeats 4000000 in
theorem fnLtrimIdempotentSuffix.walk (a0 : ByteArray) (w : World) (hT : Lib.WhiteTab (lays199_ren.g 6) w) (w0 : a0.size ≤ maxLen) :
    Calls Tryd.prog 4 #[.string a0] w fun e w' => e = .returned (.bool true) ∧ Below w.heap.size w w' := by
  have HT := Lib.hid hT
  clear hT
  go_enter Tryd.func4, Tryd.ntmps4
  go_wp2_with fail
  refine (bytesB a0 w).mono ?_
  rintro e w' ⟨⟨b, rfl, hb⟩, rfl⟩
  cases b
  · clear hb
    go_wp2_with fail
    go_ret
    exact ⟨rfl, Below.refl _ _⟩
  · have h1 := hb rfl
    clear hb
    obtain ⟨a, ha⟩ : ∃ a : ByteArray, a = trs a0 := ⟨_, rfl⟩
    have haa : trs a = a := by rw [ha, trs_trs]
    obtain ⟨hsz, hsuf⟩ := trs_size a0
    rw [← ha] at hsz hsuf
    have hsp : 0 < a.size → spc a 0 = 0 := by rw [ha]; exact trs_spc a0
    have HP := Lib.hid (show ∀ p : ByteArray, p.data.toList = pre → trs (p ++ a0) = a from fun p hp => by rw [trs_pre a0 p hp, ha])
    have HA := Lib.hid ha
    have HAA := Lib.hid haa
    have HSF := Lib.hid hsuf
    have HSP := Lib.hid hsp
    clear ha haa hsuf hsp
    go_wp2_with fail
    refine (trimZ w' a0 HT.out).mono ?_
    rintro e u1 ⟨rfl, hb1⟩
    rw [← HA.out]
    have HB1 := Lib.hid hb1
    clear hb1
    go_wp2_with fail
    refine (trimZ u1 a (WhiteTab_below HT.out HB1.out)).mono ?_
    rintro e u2 ⟨rfl, hb2⟩
    rw [HAA.out]
    have HB2 := Lib.hid (HB1.out.trans (hb2.mono HB1.out.size))
    clear hb2
    go_wp2_with fail
    refine (sufC u2 a0 a (by omega) hsz HSF.out).mono ?_
    rintro e u3 ⟨rfl, hb3⟩
    have HB3 := Lib.hid (HB2.out.trans (hb3.mono HB2.out.size))
    clear hb3
    by_cases hz : 0 < a.size
    · have HS0 : SpIs a 0 0 := by
        have h := spcC a 0 hz (by omega)
        rw [HSP.out hz] at h
        exact h
      go_wp2_with fail
      refine (HS0 u3).mono ?_
      rintro e u4 ⟨rfl, rfl⟩
      go_wp2_with fail
      refine (trimZ u4 _ (WhiteTab_below HT.out HB3.out)).mono ?_
      rintro e u5 ⟨rfl, hb5⟩
      rw [HP.out _ rfl]
      have HB5 := Lib.hid (HB3.out.trans (hb5.mono HB3.out.size))
      clear hb5
      go_wp2_with fail
      go_ret
      exact ⟨rfl, HB5.out⟩
    · have hz0 : a.size = 0 := by omega
      go_wp2_with fail
      refine (trimZ u3 _ (WhiteTab_below HT.out HB3.out)).mono ?_
      rintro e u5 ⟨rfl, hb5⟩
      rw [HP.out _ rfl]
      have HB5 := Lib.hid (HB3.out.trans (hb5.mono HB3.out.size))
      clear hb5
      go_wp2_with fail
      go_ret
      exact ⟨rfl, HB5.out⟩
end Go.Proofs.YtnbfphjkpicajaaDoor

/-
  The contract of zzSpaceWidth (n001_95).
-/
import Derived.Test.YtnbfphjkpicajaaDoorTrm
import Derived.Test.YtnbfphjkpicajaaDoorArgs
import Derived.Test.YtnbfphjkpicajaaDoorRows
namespace Go.Proofs.YtnbfphjkpicajaaDoor
set_option linter.unusedVariables false
open Go.ChangeShapes Go.WideShapes Go.ChangeAt Go.RowKit M
theorem get_bang (s : ByteArray) (i : Nat) (h : i < s.size) : s.get! i = s[i] := by
  cases s with
  | mk d =>
    show d[i]! = d[i]
    exact getElem!_pos d i h
def SpIs (s : ByteArray) (i n : Nat) : Prop := ∀ w, Calls Tryd.prog 11 #[.string s, .int .i64 i] w fun e w' => e = .returned (.int .i64 n) ∧ w' = w
set_option maxRecDepth 100000 in
set_option maxHeartbeats 8000000 in
theorem s_a (s : ByteArray) (i : Nat) (hi : i < s.size) (hm : s.size ≤ 1073741824) (q0 : 0 ≤ s[i].toNat) (q1 : s[i].toNat ≤ 8) (n : Nat) (hn : n = spN (s.size - i) s[i].toNat (s.get! (i + 1)).toNat (s.get! (i + 2)).toNat) : SpIs s i n := by
  intro w
  have e32 : ((s[i].toNat : Int) == 32) = false := by simp; omega
  have e194 : ((s[i].toNat : Int) == 194) = false := by simp; omega
  have e225 : ((s[i].toNat : Int) == 225) = false := by simp; omega
  have e226 : ((s[i].toNat : Int) == 226) = false := by simp; omega
  have e227 : ((s[i].toNat : Int) == 227) = false := by simp; omega
  have p9 : decide ((9 : Int) ≤ (s[i].toNat : Int)) = false := decide_eq_false (by omega)
  have p13 : decide ((s[i].toNat : Int) ≤ 13) = true := decide_eq_true (by omega)
  by_cases j2 : i + 2 < s.size
  · have j1 : i + 1 < s.size := by omega
    rw [get_bang s (i + 1) j1, get_bang s (i + 2) j2] at hn
    have hv : n = 0 := by
      rw [hn]
      unfold spN
      repeat' split
      all_goals omega
    clear hn
    subst hv
    go_enter Tryd.func11, Tryd.ntmps11
    go_wp2_with fail
    all_goals go_ret
    all_goals exact ⟨rfl, rfl⟩
  · skip
    have hv : n = 0 := by
      rw [hn]
      unfold spN
      repeat' split
      all_goals omega
    clear hn
    subst hv
    go_enter Tryd.func11, Tryd.ntmps11
    go_wp2_with fail
    all_goals go_ret
    all_goals exact ⟨rfl, rfl⟩
set_option maxRecDepth 100000 in
set_option maxHeartbeats 8000000 in
theorem s_b (s : ByteArray) (i : Nat) (hi : i < s.size) (hm : s.size ≤ 1073741824) (q0 : 9 ≤ s[i].toNat) (q1 : s[i].toNat ≤ 13) (n : Nat) (hn : n = spN (s.size - i) s[i].toNat (s.get! (i + 1)).toNat (s.get! (i + 2)).toNat) : SpIs s i n := by
  intro w
  have e32 : ((s[i].toNat : Int) == 32) = false := by simp; omega
  have e194 : ((s[i].toNat : Int) == 194) = false := by simp; omega
  have e225 : ((s[i].toNat : Int) == 225) = false := by simp; omega
  have e226 : ((s[i].toNat : Int) == 226) = false := by simp; omega
  have e227 : ((s[i].toNat : Int) == 227) = false := by simp; omega
  have p9 : decide ((9 : Int) ≤ (s[i].toNat : Int)) = true := decide_eq_true (by omega)
  have p13 : decide ((s[i].toNat : Int) ≤ 13) = true := decide_eq_true (by omega)
  have hv : n = 1 := by
    rw [hn]
    unfold spN
    repeat' split
    all_goals omega
  clear hn
  subst hv
  go_enter Tryd.func11, Tryd.ntmps11
  go_wp2_with fail
  all_goals go_ret
  all_goals exact ⟨rfl, rfl⟩
set_option maxRecDepth 100000 in
set_option maxHeartbeats 8000000 in
theorem s_c (s : ByteArray) (i : Nat) (hi : i < s.size) (hm : s.size ≤ 1073741824) (q0 : 14 ≤ s[i].toNat) (q1 : s[i].toNat ≤ 31) (n : Nat) (hn : n = spN (s.size - i) s[i].toNat (s.get! (i + 1)).toNat (s.get! (i + 2)).toNat) : SpIs s i n := by
  intro w
  have e32 : ((s[i].toNat : Int) == 32) = false := by simp; omega
  have e194 : ((s[i].toNat : Int) == 194) = false := by simp; omega
  have e225 : ((s[i].toNat : Int) == 225) = false := by simp; omega
  have e226 : ((s[i].toNat : Int) == 226) = false := by simp; omega
  have e227 : ((s[i].toNat : Int) == 227) = false := by simp; omega
  have p9 : decide ((9 : Int) ≤ (s[i].toNat : Int)) = true := decide_eq_true (by omega)
  have p13 : decide ((s[i].toNat : Int) ≤ 13) = false := decide_eq_false (by omega)
  by_cases j2 : i + 2 < s.size
  · have j1 : i + 1 < s.size := by omega
    rw [get_bang s (i + 1) j1, get_bang s (i + 2) j2] at hn
    have hv : n = 0 := by
      rw [hn]
      unfold spN
      repeat' split
      all_goals omega
    clear hn
    subst hv
    go_enter Tryd.func11, Tryd.ntmps11
    go_wp2_with fail
    all_goals go_ret
    all_goals exact ⟨rfl, rfl⟩
  · skip
    have hv : n = 0 := by
      rw [hn]
      unfold spN
      repeat' split
      all_goals omega
    clear hn
    subst hv
    go_enter Tryd.func11, Tryd.ntmps11
    go_wp2_with fail
    all_goals go_ret
    all_goals exact ⟨rfl, rfl⟩
set_option maxRecDepth 100000 in
set_option maxHeartbeats 8000000 in
theorem s_32 (s : ByteArray) (i : Nat) (hi : i < s.size) (hm : s.size ≤ 1073741824) (q0 : s[i].toNat = 32) (n : Nat) (hn : n = spN (s.size - i) s[i].toNat (s.get! (i + 1)).toNat (s.get! (i + 2)).toNat) : SpIs s i n := by
  intro w
  have hv : n = 1 := by
    rw [hn]
    unfold spN
    repeat' split
    all_goals omega
  clear hn
  subst hv
  go_enter Tryd.func11, Tryd.ntmps11
  go_wp2_with fail
  all_goals go_ret
  all_goals exact ⟨rfl, rfl⟩
set_option maxRecDepth 100000 in
set_option maxHeartbeats 8000000 in
theorem s_d (s : ByteArray) (i : Nat) (hi : i < s.size) (hm : s.size ≤ 1073741824) (q0 : 33 ≤ s[i].toNat) (q1 : s[i].toNat ≤ 193) (n : Nat) (hn : n = spN (s.size - i) s[i].toNat (s.get! (i + 1)).toNat (s.get! (i + 2)).toNat) : SpIs s i n := by
  intro w
  have e32 : ((s[i].toNat : Int) == 32) = false := by simp; omega
  have e194 : ((s[i].toNat : Int) == 194) = false := by simp; omega
  have e225 : ((s[i].toNat : Int) == 225) = false := by simp; omega
  have e226 : ((s[i].toNat : Int) == 226) = false := by simp; omega
  have e227 : ((s[i].toNat : Int) == 227) = false := by simp; omega
  have p9 : decide ((9 : Int) ≤ (s[i].toNat : Int)) = true := decide_eq_true (by omega)
  have p13 : decide ((s[i].toNat : Int) ≤ 13) = false := decide_eq_false (by omega)
  by_cases j2 : i + 2 < s.size
  · have j1 : i + 1 < s.size := by omega
    rw [get_bang s (i + 1) j1, get_bang s (i + 2) j2] at hn
    have hv : n = 0 := by
      rw [hn]
      unfold spN
      repeat' split
      all_goals omega
    clear hn
    subst hv
    go_enter Tryd.func11, Tryd.ntmps11
    go_wp2_with fail
    all_goals go_ret
    all_goals exact ⟨rfl, rfl⟩
  · skip
    have hv : n = 0 := by
      rw [hn]
      unfold spN
      repeat' split
      all_goals omega
    clear hn
    subst hv
    go_enter Tryd.func11, Tryd.ntmps11
    go_wp2_with fail
    all_goals go_ret
    all_goals exact ⟨rfl, rfl⟩
set_option maxRecDepth 100000 in
set_option maxHeartbeats 8000000 in
theorem s_194 (s : ByteArray) (i : Nat) (hi : i < s.size) (hm : s.size ≤ 1073741824) (q0 : s[i].toNat = 194) (n : Nat) (hn : n = spN (s.size - i) s[i].toNat (s.get! (i + 1)).toNat (s.get! (i + 2)).toNat) : SpIs s i n := by
  intro w
  by_cases j1 : i + 1 < s.size
  · rw [get_bang s (i + 1) j1] at hn
    by_cases c1 : s[i + 1].toNat = 133
    · skip
      have hv : n = 2 := by
        rw [hn]
        unfold spN
        repeat' split
        all_goals omega
      clear hn
      subst hv
      go_enter Tryd.func11, Tryd.ntmps11
      go_wp2_with fail
      all_goals go_ret
      all_goals exact ⟨rfl, rfl⟩
    · have fc1 : ((s[i + 1].toNat : Int) == 133) = false := by simp; omega
      by_cases c2 : s[i + 1].toNat = 160
      · skip
        have hv : n = 2 := by
          rw [hn]
          unfold spN
          repeat' split
          all_goals omega
        clear hn
        subst hv
        go_enter Tryd.func11, Tryd.ntmps11
        go_wp2_with fail
        all_goals go_ret
        all_goals exact ⟨rfl, rfl⟩
      · have fc2 : ((s[i + 1].toNat : Int) == 160) = false := by simp; omega
        have hv : n = 0 := by
          rw [hn]
          unfold spN
          repeat' split
          all_goals omega
        clear hn
        subst hv
        go_enter Tryd.func11, Tryd.ntmps11
        go_wp2_with fail
        all_goals go_ret
        all_goals exact ⟨rfl, rfl⟩
  · skip
    have hv : n = 0 := by
      rw [hn]
      unfold spN
      repeat' split
      all_goals omega
    clear hn
    subst hv
    go_enter Tryd.func11, Tryd.ntmps11
    go_wp2_with fail
    all_goals go_ret
    all_goals exact ⟨rfl, rfl⟩
set_option maxRecDepth 100000 in
set_option maxHeartbeats 8000000 in
theorem s_e (s : ByteArray) (i : Nat) (hi : i < s.size) (hm : s.size ≤ 1073741824) (q0 : 195 ≤ s[i].toNat) (q1 : s[i].toNat ≤ 224) (n : Nat) (hn : n = spN (s.size - i) s[i].toNat (s.get! (i + 1)).toNat (s.get! (i + 2)).toNat) : SpIs s i n := by
  intro w
  have e32 : ((s[i].toNat : Int) == 32) = false := by simp; omega
  have e194 : ((s[i].toNat : Int) == 194) = false := by simp; omega
  have e225 : ((s[i].toNat : Int) == 225) = false := by simp; omega
  have e226 : ((s[i].toNat : Int) == 226) = false := by simp; omega
  have e227 : ((s[i].toNat : Int) == 227) = false := by simp; omega
  have p9 : decide ((9 : Int) ≤ (s[i].toNat : Int)) = true := decide_eq_true (by omega)
  have p13 : decide ((s[i].toNat : Int) ≤ 13) = false := decide_eq_false (by omega)
  by_cases j2 : i + 2 < s.size
  · have j1 : i + 1 < s.size := by omega
    rw [get_bang s (i + 1) j1, get_bang s (i + 2) j2] at hn
    have hv : n = 0 := by
      rw [hn]
      unfold spN
      repeat' split
      all_goals omega
    clear hn
    subst hv
    go_enter Tryd.func11, Tryd.ntmps11
    go_wp2_with fail
    all_goals go_ret
    all_goals exact ⟨rfl, rfl⟩
  · skip
    have hv : n = 0 := by
      rw [hn]
      unfold spN
      repeat' split
      all_goals omega
    clear hn
    subst hv
    go_enter Tryd.func11, Tryd.ntmps11
    go_wp2_with fail
    all_goals go_ret
    all_goals exact ⟨rfl, rfl⟩
set_option maxRecDepth 100000 in
set_option maxHeartbeats 8000000 in
theorem s_225 (s : ByteArray) (i : Nat) (hi : i < s.size) (hm : s.size ≤ 1073741824) (q0 : s[i].toNat = 225) (n : Nat) (hn : n = spN (s.size - i) s[i].toNat (s.get! (i + 1)).toNat (s.get! (i + 2)).toNat) : SpIs s i n := by
  intro w
  by_cases j2 : i + 2 < s.size
  · have j1 : i + 1 < s.size := by omega
    rw [get_bang s (i + 1) j1, get_bang s (i + 2) j2] at hn
    by_cases c3 : s[i + 1].toNat = 154
    · skip
      by_cases c4 : s[i + 2].toNat = 128
      · skip
        have hv : n = 3 := by
          rw [hn]
          unfold spN
          repeat' split
          all_goals omega
        clear hn
        subst hv
        go_enter Tryd.func11, Tryd.ntmps11
        go_wp2_with fail
        all_goals go_ret
        all_goals exact ⟨rfl, rfl⟩
      · have fc4 : ((s[i + 2].toNat : Int) == 128) = false := by simp; omega
        have hv : n = 0 := by
          rw [hn]
          unfold spN
          repeat' split
          all_goals omega
        clear hn
        subst hv
        go_enter Tryd.func11, Tryd.ntmps11
        go_wp2_with fail
        all_goals go_ret
        all_goals exact ⟨rfl, rfl⟩
    · have fc3 : ((s[i + 1].toNat : Int) == 154) = false := by simp; omega
      have hv : n = 0 := by
        rw [hn]
        unfold spN
        repeat' split
        all_goals omega
      clear hn
      subst hv
      go_enter Tryd.func11, Tryd.ntmps11
      go_wp2_with fail
      all_goals go_ret
      all_goals exact ⟨rfl, rfl⟩
  · skip
    have hv : n = 0 := by
      rw [hn]
      unfold spN
      repeat' split
      all_goals omega
    clear hn
    subst hv
    go_enter Tryd.func11, Tryd.ntmps11
    go_wp2_with fail
    all_goals go_ret
    all_goals exact ⟨rfl, rfl⟩
set_option maxRecDepth 100000 in
set_option maxHeartbeats 8000000 in
theorem s_226 (s : ByteArray) (i : Nat) (hi : i < s.size) (hm : s.size ≤ 1073741824) (q0 : s[i].toNat = 226) (n : Nat) (hn : n = spN (s.size - i) s[i].toNat (s.get! (i + 1)).toNat (s.get! (i + 2)).toNat) : SpIs s i n := by
  intro w
  by_cases j2 : i + 2 < s.size
  · have j1 : i + 1 < s.size := by omega
    rw [get_bang s (i + 1) j1, get_bang s (i + 2) j2] at hn
    by_cases c5 : s[i + 1].toNat = 128
    · skip
      by_cases c6 : 128 ≤ s[i + 2].toNat
      · skip
        by_cases c7 : s[i + 2].toNat ≤ 138
        · skip
          have hv : n = 3 := by
            rw [hn]
            unfold spN
            repeat' split
            all_goals omega
          clear hn
          subst hv
          go_enter Tryd.func11, Tryd.ntmps11
          go_wp2_with fail
          all_goals go_ret
          all_goals exact ⟨rfl, rfl⟩
        · skip
          by_cases c8 : s[i + 2].toNat = 168
          · skip
            have hv : n = 3 := by
              rw [hn]
              unfold spN
              repeat' split
              all_goals omega
            clear hn
            subst hv
            go_enter Tryd.func11, Tryd.ntmps11
            go_wp2_with fail
            all_goals go_ret
            all_goals exact ⟨rfl, rfl⟩
          · have fc8 : ((s[i + 2].toNat : Int) == 168) = false := by simp; omega
            by_cases c9 : s[i + 2].toNat = 169
            · skip
              have hv : n = 3 := by
                rw [hn]
                unfold spN
                repeat' split
                all_goals omega
              clear hn
              subst hv
              go_enter Tryd.func11, Tryd.ntmps11
              go_wp2_with fail
              all_goals go_ret
              all_goals exact ⟨rfl, rfl⟩
            · have fc9 : ((s[i + 2].toNat : Int) == 169) = false := by simp; omega
              by_cases c10 : s[i + 2].toNat = 175
              · skip
                have hv : n = 3 := by
                  rw [hn]
                  unfold spN
                  repeat' split
                  all_goals omega
                clear hn
                subst hv
                go_enter Tryd.func11, Tryd.ntmps11
                go_wp2_with fail
                all_goals go_ret
                all_goals exact ⟨rfl, rfl⟩
              · have fc10 : ((s[i + 2].toNat : Int) == 175) = false := by simp; omega
                have hv : n = 0 := by
                  rw [hn]
                  unfold spN
                  repeat' split
                  all_goals omega
                clear hn
                subst hv
                go_enter Tryd.func11, Tryd.ntmps11
                go_wp2_with fail
                all_goals go_ret
                all_goals exact ⟨rfl, rfl⟩
      · skip
        by_cases c11 : s[i + 2].toNat = 168
        · skip
          have hv : n = 3 := by
            rw [hn]
            unfold spN
            repeat' split
            all_goals omega
          clear hn
          subst hv
          go_enter Tryd.func11, Tryd.ntmps11
          go_wp2_with fail
          all_goals go_ret
          all_goals exact ⟨rfl, rfl⟩
        · have fc11 : ((s[i + 2].toNat : Int) == 168) = false := by simp; omega
          by_cases c12 : s[i + 2].toNat = 169
          · skip
            have hv : n = 3 := by
              rw [hn]
              unfold spN
              repeat' split
              all_goals omega
            clear hn
            subst hv
            go_enter Tryd.func11, Tryd.ntmps11
            go_wp2_with fail
            all_goals go_ret
            all_goals exact ⟨rfl, rfl⟩
          · have fc12 : ((s[i + 2].toNat : Int) == 169) = false := by simp; omega
            by_cases c13 : s[i + 2].toNat = 175
            · skip
              have hv : n = 3 := by
                rw [hn]
                unfold spN
                repeat' split
                all_goals omega
              clear hn
              subst hv
              go_enter Tryd.func11, Tryd.ntmps11
              go_wp2_with fail
              all_goals go_ret
              all_goals exact ⟨rfl, rfl⟩
            · have fc13 : ((s[i + 2].toNat : Int) == 175) = false := by simp; omega
              have hv : n = 0 := by
                rw [hn]
                unfold spN
                repeat' split
                all_goals omega
              clear hn
              subst hv
              go_enter Tryd.func11, Tryd.ntmps11
              go_wp2_with fail
              all_goals go_ret
              all_goals exact ⟨rfl, rfl⟩
    · have fc5 : ((s[i + 1].toNat : Int) == 128) = false := by simp; omega
      by_cases c14 : s[i + 1].toNat = 129
      · skip
        by_cases c15 : s[i + 2].toNat = 159
        · skip
          have hv : n = 3 := by
            rw [hn]
            unfold spN
            repeat' split
            all_goals omega
          clear hn
          subst hv
          go_enter Tryd.func11, Tryd.ntmps11
          go_wp2_with fail
          all_goals go_ret
          all_goals exact ⟨rfl, rfl⟩
        · have fc15 : ((s[i + 2].toNat : Int) == 159) = false := by simp; omega
          have hv : n = 0 := by
            rw [hn]
            unfold spN
            repeat' split
            all_goals omega
          clear hn
          subst hv
          go_enter Tryd.func11, Tryd.ntmps11
          go_wp2_with fail
          all_goals go_ret
          all_goals exact ⟨rfl, rfl⟩
      · have fc14 : ((s[i + 1].toNat : Int) == 129) = false := by simp; omega
        have hv : n = 0 := by
          rw [hn]
          unfold spN
          repeat' split
          all_goals omega
        clear hn
        subst hv
        go_enter Tryd.func11, Tryd.ntmps11
        go_wp2_with fail
        all_goals go_ret
        all_goals exact ⟨rfl, rfl⟩
  · skip
    have hv : n = 0 := by
      rw [hn]
      unfold spN
      repeat' split
      all_goals omega
    clear hn
    subst hv
    go_enter Tryd.func11, Tryd.ntmps11
    go_wp2_with fail
    all_goals go_ret
    all_goals exact ⟨rfl, rfl⟩
set_option maxRecDepth 100000 in
set_option maxHeartbeats 8000000 in
theorem s_227 (s : ByteArray) (i : Nat) (hi : i < s.size) (hm : s.size ≤ 1073741824) (q0 : s[i].toNat = 227) (n : Nat) (hn : n = spN (s.size - i) s[i].toNat (s.get! (i + 1)).toNat (s.get! (i + 2)).toNat) : SpIs s i n := by
  intro w
  by_cases j2 : i + 2 < s.size
  · have j1 : i + 1 < s.size := by omega
    rw [get_bang s (i + 1) j1, get_bang s (i + 2) j2] at hn
    by_cases c16 : s[i + 1].toNat = 128
    · skip
      by_cases c17 : s[i + 2].toNat = 128
      · skip
        have hv : n = 3 := by
          rw [hn]
          unfold spN
          repeat' split
          all_goals omega
        clear hn
        subst hv
        go_enter Tryd.func11, Tryd.ntmps11
        go_wp2_with fail
        all_goals go_ret
        all_goals exact ⟨rfl, rfl⟩
      · have fc17 : ((s[i + 2].toNat : Int) == 128) = false := by simp; omega
        have hv : n = 0 := by
          rw [hn]
          unfold spN
          repeat' split
          all_goals omega
        clear hn
        subst hv
        go_enter Tryd.func11, Tryd.ntmps11
        go_wp2_with fail
        all_goals go_ret
        all_goals exact ⟨rfl, rfl⟩
    · have fc16 : ((s[i + 1].toNat : Int) == 128) = false := by simp; omega
      have hv : n = 0 := by
        rw [hn]
        unfold spN
        repeat' split
        all_goals omega
      clear hn
      subst hv
      go_enter Tryd.func11, Tryd.ntmps11
      go_wp2_with fail
      all_goals go_ret
      all_goals exact ⟨rfl, rfl⟩
  · skip
    have hv : n = 0 := by
      rw [hn]
      unfold spN
      repeat' split
      all_goals omega
    clear hn
    subst hv
    go_enter Tryd.func11, Tryd.ntmps11
    go_wp2_with fail
    all_goals go_ret
    all_goals exact ⟨rfl, rfl⟩
set_option maxRecDepth 100000 in
set_option maxHeartbeats 8000000 in
theorem s_f (s : ByteArray) (i : Nat) (hi : i < s.size) (hm : s.size ≤ 1073741824) (q0 : 228 ≤ s[i].toNat) (q1 : s[i].toNat ≤ 255) (n : Nat) (hn : n = spN (s.size - i) s[i].toNat (s.get! (i + 1)).toNat (s.get! (i + 2)).toNat) : SpIs s i n := by
  intro w
  have e32 : ((s[i].toNat : Int) == 32) = false := by simp; omega
  have e194 : ((s[i].toNat : Int) == 194) = false := by simp; omega
  have e225 : ((s[i].toNat : Int) == 225) = false := by simp; omega
  have e226 : ((s[i].toNat : Int) == 226) = false := by simp; omega
  have e227 : ((s[i].toNat : Int) == 227) = false := by simp; omega
  have p9 : decide ((9 : Int) ≤ (s[i].toNat : Int)) = true := decide_eq_true (by omega)
  have p13 : decide ((s[i].toNat : Int) ≤ 13) = false := decide_eq_false (by omega)
  by_cases j2 : i + 2 < s.size
  · have j1 : i + 1 < s.size := by omega
    rw [get_bang s (i + 1) j1, get_bang s (i + 2) j2] at hn
    have hv : n = 0 := by
      rw [hn]
      unfold spN
      repeat' split
      all_goals omega
    clear hn
    subst hv
    go_enter Tryd.func11, Tryd.ntmps11
    go_wp2_with fail
    all_goals go_ret
    all_goals exact ⟨rfl, rfl⟩
  · skip
    have hv : n = 0 := by
      rw [hn]
      unfold spN
      repeat' split
      all_goals omega
    clear hn
    subst hv
    go_enter Tryd.func11, Tryd.ntmps11
    go_wp2_with fail
    all_goals go_ret
    all_goals exact ⟨rfl, rfl⟩
def spc (s : ByteArray) (i : Nat) : Nat := spN (s.size - i) (s.get! i).toNat (s.get! (i + 1)).toNat (s.get! (i + 2)).toNat
theorem spcC (s : ByteArray) (i : Nat) (hi : i < s.size) (hm : s.size ≤ 1073741824) : SpIs s i (spc s i) := by
  have hb := UInt8.toNat_lt s[i]
  have hn : spc s i = spN (s.size - i) s[i].toNat (s.get! (i + 1)).toNat (s.get! (i + 2)).toNat := by unfold spc; rw [get_bang s i hi]
  rcases (show s[i].toNat ≤ 8 ∨ (9 ≤ s[i].toNat ∧ s[i].toNat ≤ 13) ∨ (14 ≤ s[i].toNat ∧ s[i].toNat ≤ 31) ∨ s[i].toNat = 32 ∨ (33 ≤ s[i].toNat ∧ s[i].toNat ≤ 193) ∨ s[i].toNat = 194 ∨ (195 ≤ s[i].toNat ∧ s[i].toNat ≤ 224) ∨ s[i].toNat = 225 ∨ s[i].toNat = 226 ∨ s[i].toNat = 227 ∨ 228 ≤ s[i].toNat by omega) with q | ⟨q, q1⟩ | ⟨q, q1⟩ | q | ⟨q, q1⟩ | q | ⟨q, q1⟩ | q | q | q | q
  · exact s_a s i hi hm (Nat.zero_le _) q _ hn
  · exact s_b s i hi hm q q1 _ hn
  · exact s_c s i hi hm q q1 _ hn
  · exact s_32 s i hi hm q _ hn
  · exact s_d s i hi hm q q1 _ hn
  · exact s_194 s i hi hm q _ hn
  · exact s_e s i hi hm q q1 _ hn
  · exact s_225 s i hi hm q _ hn
  · exact s_226 s i hi hm q _ hn
  · exact s_227 s i hi hm q _ hn
  · exact s_f s i hi hm q (by omega) _ hn
/-- The law's look is the decoder's. -/
theorem spc_dec (s : ByteArray) (i : Nat) (hi : i < s.size) : (Lib.isSpaceR (Utf8.decode s i).1 = true ∧ (Utf8.decode s i).2 = spc s i ∧ 0 < spc s i) ∨ (Lib.isSpaceR (Utf8.decode s i).1 = false ∧ spc s i = 0) := by
  rw [Lib.decode_at]
  exact spN_dec _ _ _ _ _ (by omega) (UInt8.toNat_lt _) (UInt8.toNat_lt _) (UInt8.toNat_lt _) (UInt8.toNat_lt _)
end Go.Proofs.YtnbfphjkpicajaaDoor

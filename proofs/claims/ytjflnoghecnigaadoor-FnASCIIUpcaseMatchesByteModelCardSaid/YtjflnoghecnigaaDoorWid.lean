/-
  The contract of utf8Width (n001_98).
-/
import Derived.Test.YtjflnoghecnigaaDoorUni
import Derived.Test.YtjflnoghecnigaaDoorByt
import Derived.Test.YtjflnoghecnigaaDoorRows
namespace Go.Proofs.YtjflnoghecnigaaDoor
set_option linter.unusedVariables false
open Go.ChangeShapes Go.WideShapes Go.ChangeAt Go.RowKit M
def wid (s : ByteArray) (i : Nat) : Nat := if (s.get! i).toNat < 128 then 1 else seqS s i
def WidIs (s : ByteArray) (i n : Nat) : Prop := ∀ w, Calls Tryd.prog 11 #[.string s, .int .i64 i] w fun e w' => e = .returned (.int .i64 n) ∧ w' = w
theorem if2 (s : ByteArray) (i : Nat) : (if contB s (i + 1) 128 191 = true then 2 else 0) = (if (i + 1 < s.size ∧ 128 ≤ (s.get! (i + 1)).toNat ∧ (s.get! (i + 1)).toNat ≤ 191) then 2 else 0) :=
  ite_congr (propext (by simp only [contB, Bool.and_eq_true, decide_eq_true_eq])) (fun _ => rfl) (fun _ => rfl)
theorem if3 (s : ByteArray) (i lo hi : Nat) : (if (contB s (i + 1) lo hi && contB s (i + 2) 128 191) = true then 3 else 0) = (if (i + 2 < s.size ∧ lo ≤ (s.get! (i + 1)).toNat ∧ (s.get! (i + 1)).toNat ≤ hi ∧ 128 ≤ (s.get! (i + 2)).toNat ∧ (s.get! (i + 2)).toNat ≤ 191) then 3 else 0) :=
  ite_congr (propext (by simp only [contB, Bool.and_eq_true, decide_eq_true_eq]; constructor <;> (intro h; omega))) (fun _ => rfl) (fun _ => rfl)
theorem if4 (s : ByteArray) (i lo hi : Nat) : (if (contB s (i + 1) lo hi && contB s (i + 2) 128 191 && contB s (i + 3) 128 191) = true then 4 else 0) = (if (i + 3 < s.size ∧ lo ≤ (s.get! (i + 1)).toNat ∧ (s.get! (i + 1)).toNat ≤ hi ∧ 128 ≤ (s.get! (i + 2)).toNat ∧ (s.get! (i + 2)).toNat ≤ 191 ∧ 128 ≤ (s.get! (i + 3)).toNat ∧ (s.get! (i + 3)).toNat ≤ 191) then 4 else 0) :=
  ite_congr (propext (by simp only [contB, Bool.and_eq_true, decide_eq_true_eq]; constructor <;> (intro h; omega))) (fun _ => rfl) (fun _ => rfl)
set_option maxRecDepth 100000 in
set_option maxHeartbeats 8000000 in
theorem w_a (s : ByteArray) (i : Nat) (hi : i < s.size) (hm : s.size ≤ 1073741824) (q0 : 0 ≤ s[i].toNat) (q1 : s[i].toNat ≤ 127) (n : Nat) (hn : n = 1) : WidIs s i n := by
  intro w
  have f128 : decide ((s[i].toNat : Int) < 128) = true := decide_eq_true (by omega)
  have f194 : decide ((s[i].toNat : Int) < 194) = true := decide_eq_true (by omega)
  have f224 : decide ((s[i].toNat : Int) < 224) = true := decide_eq_true (by omega)
  have f240 : decide ((s[i].toNat : Int) < 240) = true := decide_eq_true (by omega)
  have g244 : decide ((244 : Int) < (s[i].toNat : Int)) = false := decide_eq_false (by omega)
  have e224 : ((s[i].toNat : Int) == 224) = false := by simp; omega
  have e237 : ((s[i].toNat : Int) == 237) = false := by simp; omega
  have e240 : ((s[i].toNat : Int) == 240) = false := by simp; omega
  have e244 : ((s[i].toNat : Int) == 244) = false := by simp; omega
  subst hn
  go_enter Tryd.func11, Tryd.ntmps11
  go_wp2_with fail
  go_ret
  exact ⟨rfl, rfl⟩
set_option maxRecDepth 100000 in
set_option maxHeartbeats 8000000 in
theorem w_z1 (s : ByteArray) (i : Nat) (hi : i < s.size) (hm : s.size ≤ 1073741824) (q0 : 128 ≤ s[i].toNat) (q1 : s[i].toNat ≤ 193) (n : Nat) (hn : n = 0) : WidIs s i n := by
  intro w
  have f128 : decide ((s[i].toNat : Int) < 128) = false := decide_eq_false (by omega)
  have f194 : decide ((s[i].toNat : Int) < 194) = true := decide_eq_true (by omega)
  have f224 : decide ((s[i].toNat : Int) < 224) = true := decide_eq_true (by omega)
  have f240 : decide ((s[i].toNat : Int) < 240) = true := decide_eq_true (by omega)
  have g244 : decide ((244 : Int) < (s[i].toNat : Int)) = false := decide_eq_false (by omega)
  have e224 : ((s[i].toNat : Int) == 224) = false := by simp; omega
  have e237 : ((s[i].toNat : Int) == 237) = false := by simp; omega
  have e240 : ((s[i].toNat : Int) == 240) = false := by simp; omega
  have e244 : ((s[i].toNat : Int) == 244) = false := by simp; omega
  subst hn
  go_enter Tryd.func11, Tryd.ntmps11
  go_wp2_with fail
  go_ret
  exact ⟨rfl, rfl⟩
set_option maxRecDepth 100000 in
set_option maxHeartbeats 8000000 in
theorem w_two (s : ByteArray) (i : Nat) (hi : i < s.size) (hm : s.size ≤ 1073741824) (q0 : 194 ≤ s[i].toNat) (q1 : s[i].toNat ≤ 223) (n : Nat) (hn : n = (if (i + 1 < s.size ∧ 128 ≤ (s.get! (i + 1)).toNat ∧ (s.get! (i + 1)).toNat ≤ 191) then 2 else 0)) : WidIs s i n := by
  intro w
  have f128 : decide ((s[i].toNat : Int) < 128) = false := decide_eq_false (by omega)
  have f194 : decide ((s[i].toNat : Int) < 194) = false := decide_eq_false (by omega)
  have f224 : decide ((s[i].toNat : Int) < 224) = true := decide_eq_true (by omega)
  have f240 : decide ((s[i].toNat : Int) < 240) = true := decide_eq_true (by omega)
  have g244 : decide ((244 : Int) < (s[i].toNat : Int)) = false := decide_eq_false (by omega)
  have e224 : ((s[i].toNat : Int) == 224) = false := by simp; omega
  have e237 : ((s[i].toNat : Int) == 237) = false := by simp; omega
  have e240 : ((s[i].toNat : Int) == 240) = false := by simp; omega
  have e244 : ((s[i].toNat : Int) == 244) = false := by simp; omega
  by_cases j0 : i + 1 < s.size
  · have j1 : i + 1 < s.size := by omega
    rw [get_bang s (i + 1) j1] at hn
    by_cases c1 : 128 ≤ s[i + 1].toNat
    · skip
      by_cases c2 : s[i + 1].toNat ≤ 191
      · skip
        rw [if_pos ⟨j0, c1, c2⟩] at hn
        subst hn
        go_enter Tryd.func11, Tryd.ntmps11
        go_wp2_with fail
        go_ret
        exact ⟨rfl, rfl⟩
      · rw [if_neg (by omega)] at hn
        subst hn
        go_enter Tryd.func11, Tryd.ntmps11
        go_wp2_with fail
        go_ret
        exact ⟨rfl, rfl⟩
    · rw [if_neg (by omega)] at hn
      subst hn
      go_enter Tryd.func11, Tryd.ntmps11
      go_wp2_with fail
      go_ret
      exact ⟨rfl, rfl⟩
  · rw [if_neg (by omega)] at hn
    subst hn
    go_enter Tryd.func11, Tryd.ntmps11
    go_wp2_with fail
    go_ret
    exact ⟨rfl, rfl⟩
set_option maxRecDepth 100000 in
set_option maxHeartbeats 8000000 in
theorem w_t224 (s : ByteArray) (i : Nat) (hi : i < s.size) (hm : s.size ≤ 1073741824) (q0 : s[i].toNat = 224) (n : Nat) (hn : n = (if (i + 2 < s.size ∧ 160 ≤ (s.get! (i + 1)).toNat ∧ (s.get! (i + 1)).toNat ≤ 191 ∧ 128 ≤ (s.get! (i + 2)).toNat ∧ (s.get! (i + 2)).toNat ≤ 191) then 3 else 0)) : WidIs s i n := by
  intro w
  by_cases j0 : i + 2 < s.size
  · have j1 : i + 1 < s.size := by omega
    have j2 : i + 2 < s.size := by omega
    rw [get_bang s (i + 1) j1, get_bang s (i + 2) j2] at hn
    by_cases c1 : 160 ≤ s[i + 1].toNat
    · skip
      by_cases c2 : s[i + 1].toNat ≤ 191
      · skip
        by_cases c3 : 128 ≤ s[i + 2].toNat
        · skip
          by_cases c4 : s[i + 2].toNat ≤ 191
          · skip
            rw [if_pos ⟨j0, c1, c2, c3, c4⟩] at hn
            subst hn
            go_enter Tryd.func11, Tryd.ntmps11
            go_wp2_with fail
            go_ret
            exact ⟨rfl, rfl⟩
          · rw [if_neg (by omega)] at hn
            subst hn
            go_enter Tryd.func11, Tryd.ntmps11
            go_wp2_with fail
            go_ret
            exact ⟨rfl, rfl⟩
        · rw [if_neg (by omega)] at hn
          subst hn
          go_enter Tryd.func11, Tryd.ntmps11
          go_wp2_with fail
          go_ret
          exact ⟨rfl, rfl⟩
      · rw [if_neg (by omega)] at hn
        subst hn
        go_enter Tryd.func11, Tryd.ntmps11
        go_wp2_with fail
        go_ret
        exact ⟨rfl, rfl⟩
    · rw [if_neg (by omega)] at hn
      subst hn
      go_enter Tryd.func11, Tryd.ntmps11
      go_wp2_with fail
      go_ret
      exact ⟨rfl, rfl⟩
  · rw [if_neg (by omega)] at hn
    subst hn
    go_enter Tryd.func11, Tryd.ntmps11
    go_wp2_with fail
    go_ret
    exact ⟨rfl, rfl⟩
set_option maxRecDepth 100000 in
set_option maxHeartbeats 8000000 in
theorem w_t3a (s : ByteArray) (i : Nat) (hi : i < s.size) (hm : s.size ≤ 1073741824) (q0 : 225 ≤ s[i].toNat) (q1 : s[i].toNat ≤ 236) (n : Nat) (hn : n = (if (i + 2 < s.size ∧ 128 ≤ (s.get! (i + 1)).toNat ∧ (s.get! (i + 1)).toNat ≤ 191 ∧ 128 ≤ (s.get! (i + 2)).toNat ∧ (s.get! (i + 2)).toNat ≤ 191) then 3 else 0)) : WidIs s i n := by
  intro w
  have f128 : decide ((s[i].toNat : Int) < 128) = false := decide_eq_false (by omega)
  have f194 : decide ((s[i].toNat : Int) < 194) = false := decide_eq_false (by omega)
  have f224 : decide ((s[i].toNat : Int) < 224) = false := decide_eq_false (by omega)
  have f240 : decide ((s[i].toNat : Int) < 240) = true := decide_eq_true (by omega)
  have g244 : decide ((244 : Int) < (s[i].toNat : Int)) = false := decide_eq_false (by omega)
  have e224 : ((s[i].toNat : Int) == 224) = false := by simp; omega
  have e237 : ((s[i].toNat : Int) == 237) = false := by simp; omega
  have e240 : ((s[i].toNat : Int) == 240) = false := by simp; omega
  have e244 : ((s[i].toNat : Int) == 244) = false := by simp; omega
  by_cases j0 : i + 2 < s.size
  · have j1 : i + 1 < s.size := by omega
    have j2 : i + 2 < s.size := by omega
    rw [get_bang s (i + 1) j1, get_bang s (i + 2) j2] at hn
    by_cases c1 : 128 ≤ s[i + 1].toNat
    · skip
      by_cases c2 : s[i + 1].toNat ≤ 191
      · skip
        by_cases c3 : 128 ≤ s[i + 2].toNat
        · skip
          by_cases c4 : s[i + 2].toNat ≤ 191
          · skip
            rw [if_pos ⟨j0, c1, c2, c3, c4⟩] at hn
            subst hn
            go_enter Tryd.func11, Tryd.ntmps11
            go_wp2_with fail
            go_ret
            exact ⟨rfl, rfl⟩
          · rw [if_neg (by omega)] at hn
            subst hn
            go_enter Tryd.func11, Tryd.ntmps11
            go_wp2_with fail
            go_ret
            exact ⟨rfl, rfl⟩
        · rw [if_neg (by omega)] at hn
          subst hn
          go_enter Tryd.func11, Tryd.ntmps11
          go_wp2_with fail
          go_ret
          exact ⟨rfl, rfl⟩
      · rw [if_neg (by omega)] at hn
        subst hn
        go_enter Tryd.func11, Tryd.ntmps11
        go_wp2_with fail
        go_ret
        exact ⟨rfl, rfl⟩
    · rw [if_neg (by omega)] at hn
      subst hn
      go_enter Tryd.func11, Tryd.ntmps11
      go_wp2_with fail
      go_ret
      exact ⟨rfl, rfl⟩
  · rw [if_neg (by omega)] at hn
    subst hn
    go_enter Tryd.func11, Tryd.ntmps11
    go_wp2_with fail
    go_ret
    exact ⟨rfl, rfl⟩
set_option maxRecDepth 100000 in
set_option maxHeartbeats 8000000 in
theorem w_t237 (s : ByteArray) (i : Nat) (hi : i < s.size) (hm : s.size ≤ 1073741824) (q0 : s[i].toNat = 237) (n : Nat) (hn : n = (if (i + 2 < s.size ∧ 128 ≤ (s.get! (i + 1)).toNat ∧ (s.get! (i + 1)).toNat ≤ 159 ∧ 128 ≤ (s.get! (i + 2)).toNat ∧ (s.get! (i + 2)).toNat ≤ 191) then 3 else 0)) : WidIs s i n := by
  intro w
  by_cases j0 : i + 2 < s.size
  · have j1 : i + 1 < s.size := by omega
    have j2 : i + 2 < s.size := by omega
    rw [get_bang s (i + 1) j1, get_bang s (i + 2) j2] at hn
    by_cases c1 : 128 ≤ s[i + 1].toNat
    · skip
      by_cases c2 : s[i + 1].toNat ≤ 159
      · skip
        by_cases c3 : 128 ≤ s[i + 2].toNat
        · skip
          by_cases c4 : s[i + 2].toNat ≤ 191
          · skip
            rw [if_pos ⟨j0, c1, c2, c3, c4⟩] at hn
            subst hn
            go_enter Tryd.func11, Tryd.ntmps11
            go_wp2_with fail
            go_ret
            exact ⟨rfl, rfl⟩
          · rw [if_neg (by omega)] at hn
            subst hn
            go_enter Tryd.func11, Tryd.ntmps11
            go_wp2_with fail
            go_ret
            exact ⟨rfl, rfl⟩
        · rw [if_neg (by omega)] at hn
          subst hn
          go_enter Tryd.func11, Tryd.ntmps11
          go_wp2_with fail
          go_ret
          exact ⟨rfl, rfl⟩
      · rw [if_neg (by omega)] at hn
        subst hn
        go_enter Tryd.func11, Tryd.ntmps11
        go_wp2_with fail
        go_ret
        exact ⟨rfl, rfl⟩
    · rw [if_neg (by omega)] at hn
      subst hn
      go_enter Tryd.func11, Tryd.ntmps11
      go_wp2_with fail
      go_ret
      exact ⟨rfl, rfl⟩
  · rw [if_neg (by omega)] at hn
    subst hn
    go_enter Tryd.func11, Tryd.ntmps11
    go_wp2_with fail
    go_ret
    exact ⟨rfl, rfl⟩
set_option maxRecDepth 100000 in
set_option maxHeartbeats 8000000 in
theorem w_t3b (s : ByteArray) (i : Nat) (hi : i < s.size) (hm : s.size ≤ 1073741824) (q0 : 238 ≤ s[i].toNat) (q1 : s[i].toNat ≤ 239) (n : Nat) (hn : n = (if (i + 2 < s.size ∧ 128 ≤ (s.get! (i + 1)).toNat ∧ (s.get! (i + 1)).toNat ≤ 191 ∧ 128 ≤ (s.get! (i + 2)).toNat ∧ (s.get! (i + 2)).toNat ≤ 191) then 3 else 0)) : WidIs s i n := by
  intro w
  have f128 : decide ((s[i].toNat : Int) < 128) = false := decide_eq_false (by omega)
  have f194 : decide ((s[i].toNat : Int) < 194) = false := decide_eq_false (by omega)
  have f224 : decide ((s[i].toNat : Int) < 224) = false := decide_eq_false (by omega)
  have f240 : decide ((s[i].toNat : Int) < 240) = true := decide_eq_true (by omega)
  have g244 : decide ((244 : Int) < (s[i].toNat : Int)) = false := decide_eq_false (by omega)
  have e224 : ((s[i].toNat : Int) == 224) = false := by simp; omega
  have e237 : ((s[i].toNat : Int) == 237) = false := by simp; omega
  have e240 : ((s[i].toNat : Int) == 240) = false := by simp; omega
  have e244 : ((s[i].toNat : Int) == 244) = false := by simp; omega
  by_cases j0 : i + 2 < s.size
  · have j1 : i + 1 < s.size := by omega
    have j2 : i + 2 < s.size := by omega
    rw [get_bang s (i + 1) j1, get_bang s (i + 2) j2] at hn
    by_cases c1 : 128 ≤ s[i + 1].toNat
    · skip
      by_cases c2 : s[i + 1].toNat ≤ 191
      · skip
        by_cases c3 : 128 ≤ s[i + 2].toNat
        · skip
          by_cases c4 : s[i + 2].toNat ≤ 191
          · skip
            rw [if_pos ⟨j0, c1, c2, c3, c4⟩] at hn
            subst hn
            go_enter Tryd.func11, Tryd.ntmps11
            go_wp2_with fail
            go_ret
            exact ⟨rfl, rfl⟩
          · rw [if_neg (by omega)] at hn
            subst hn
            go_enter Tryd.func11, Tryd.ntmps11
            go_wp2_with fail
            go_ret
            exact ⟨rfl, rfl⟩
        · rw [if_neg (by omega)] at hn
          subst hn
          go_enter Tryd.func11, Tryd.ntmps11
          go_wp2_with fail
          go_ret
          exact ⟨rfl, rfl⟩
      · rw [if_neg (by omega)] at hn
        subst hn
        go_enter Tryd.func11, Tryd.ntmps11
        go_wp2_with fail
        go_ret
        exact ⟨rfl, rfl⟩
    · rw [if_neg (by omega)] at hn
      subst hn
      go_enter Tryd.func11, Tryd.ntmps11
      go_wp2_with fail
      go_ret
      exact ⟨rfl, rfl⟩
  · rw [if_neg (by omega)] at hn
    subst hn
    go_enter Tryd.func11, Tryd.ntmps11
    go_wp2_with fail
    go_ret
    exact ⟨rfl, rfl⟩
set_option maxRecDepth 100000 in
set_option maxHeartbeats 8000000 in
theorem w_f240 (s : ByteArray) (i : Nat) (hi : i < s.size) (hm : s.size ≤ 1073741824) (q0 : s[i].toNat = 240) (n : Nat) (hn : n = (if (i + 3 < s.size ∧ 144 ≤ (s.get! (i + 1)).toNat ∧ (s.get! (i + 1)).toNat ≤ 191 ∧ 128 ≤ (s.get! (i + 2)).toNat ∧ (s.get! (i + 2)).toNat ≤ 191 ∧ 128 ≤ (s.get! (i + 3)).toNat ∧ (s.get! (i + 3)).toNat ≤ 191) then 4 else 0)) : WidIs s i n := by
  intro w
  by_cases j0 : i + 3 < s.size
  · have j1 : i + 1 < s.size := by omega
    have j2 : i + 2 < s.size := by omega
    rw [get_bang s (i + 1) j1, get_bang s (i + 2) j2, get_bang s (i + 3) j0] at hn
    by_cases c1 : 144 ≤ s[i + 1].toNat
    · skip
      by_cases c2 : s[i + 1].toNat ≤ 191
      · skip
        by_cases c3 : 128 ≤ s[i + 2].toNat
        · skip
          by_cases c4 : s[i + 2].toNat ≤ 191
          · skip
            by_cases c5 : 128 ≤ s[i + 3].toNat
            · skip
              by_cases c6 : s[i + 3].toNat ≤ 191
              · skip
                rw [if_pos ⟨j0, c1, c2, c3, c4, c5, c6⟩] at hn
                subst hn
                go_enter Tryd.func11, Tryd.ntmps11
                go_wp2_with fail
                go_ret
                exact ⟨rfl, rfl⟩
              · rw [if_neg (by omega)] at hn
                subst hn
                go_enter Tryd.func11, Tryd.ntmps11
                go_wp2_with fail
                go_ret
                exact ⟨rfl, rfl⟩
            · rw [if_neg (by omega)] at hn
              subst hn
              go_enter Tryd.func11, Tryd.ntmps11
              go_wp2_with fail
              go_ret
              exact ⟨rfl, rfl⟩
          · rw [if_neg (by omega)] at hn
            subst hn
            go_enter Tryd.func11, Tryd.ntmps11
            go_wp2_with fail
            go_ret
            exact ⟨rfl, rfl⟩
        · rw [if_neg (by omega)] at hn
          subst hn
          go_enter Tryd.func11, Tryd.ntmps11
          go_wp2_with fail
          go_ret
          exact ⟨rfl, rfl⟩
      · rw [if_neg (by omega)] at hn
        subst hn
        go_enter Tryd.func11, Tryd.ntmps11
        go_wp2_with fail
        go_ret
        exact ⟨rfl, rfl⟩
    · rw [if_neg (by omega)] at hn
      subst hn
      go_enter Tryd.func11, Tryd.ntmps11
      go_wp2_with fail
      go_ret
      exact ⟨rfl, rfl⟩
  · rw [if_neg (by omega)] at hn
    subst hn
    go_enter Tryd.func11, Tryd.ntmps11
    go_wp2_with fail
    go_ret
    exact ⟨rfl, rfl⟩
set_option maxRecDepth 100000 in
set_option maxHeartbeats 8000000 in
theorem w_f4a (s : ByteArray) (i : Nat) (hi : i < s.size) (hm : s.size ≤ 1073741824) (q0 : 241 ≤ s[i].toNat) (q1 : s[i].toNat ≤ 243) (n : Nat) (hn : n = (if (i + 3 < s.size ∧ 128 ≤ (s.get! (i + 1)).toNat ∧ (s.get! (i + 1)).toNat ≤ 191 ∧ 128 ≤ (s.get! (i + 2)).toNat ∧ (s.get! (i + 2)).toNat ≤ 191 ∧ 128 ≤ (s.get! (i + 3)).toNat ∧ (s.get! (i + 3)).toNat ≤ 191) then 4 else 0)) : WidIs s i n := by
  intro w
  have f128 : decide ((s[i].toNat : Int) < 128) = false := decide_eq_false (by omega)
  have f194 : decide ((s[i].toNat : Int) < 194) = false := decide_eq_false (by omega)
  have f224 : decide ((s[i].toNat : Int) < 224) = false := decide_eq_false (by omega)
  have f240 : decide ((s[i].toNat : Int) < 240) = false := decide_eq_false (by omega)
  have g244 : decide ((244 : Int) < (s[i].toNat : Int)) = false := decide_eq_false (by omega)
  have e224 : ((s[i].toNat : Int) == 224) = false := by simp; omega
  have e237 : ((s[i].toNat : Int) == 237) = false := by simp; omega
  have e240 : ((s[i].toNat : Int) == 240) = false := by simp; omega
  have e244 : ((s[i].toNat : Int) == 244) = false := by simp; omega
  by_cases j0 : i + 3 < s.size
  · have j1 : i + 1 < s.size := by omega
    have j2 : i + 2 < s.size := by omega
    rw [get_bang s (i + 1) j1, get_bang s (i + 2) j2, get_bang s (i + 3) j0] at hn
    by_cases c1 : 128 ≤ s[i + 1].toNat
    · skip
      by_cases c2 : s[i + 1].toNat ≤ 191
      · skip
        by_cases c3 : 128 ≤ s[i + 2].toNat
        · skip
          by_cases c4 : s[i + 2].toNat ≤ 191
          · skip
            by_cases c5 : 128 ≤ s[i + 3].toNat
            · skip
              by_cases c6 : s[i + 3].toNat ≤ 191
              · skip
                rw [if_pos ⟨j0, c1, c2, c3, c4, c5, c6⟩] at hn
                subst hn
                go_enter Tryd.func11, Tryd.ntmps11
                go_wp2_with fail
                go_ret
                exact ⟨rfl, rfl⟩
              · rw [if_neg (by omega)] at hn
                subst hn
                go_enter Tryd.func11, Tryd.ntmps11
                go_wp2_with fail
                go_ret
                exact ⟨rfl, rfl⟩
            · rw [if_neg (by omega)] at hn
              subst hn
              go_enter Tryd.func11, Tryd.ntmps11
              go_wp2_with fail
              go_ret
              exact ⟨rfl, rfl⟩
          · rw [if_neg (by omega)] at hn
            subst hn
            go_enter Tryd.func11, Tryd.ntmps11
            go_wp2_with fail
            go_ret
            exact ⟨rfl, rfl⟩
        · rw [if_neg (by omega)] at hn
          subst hn
          go_enter Tryd.func11, Tryd.ntmps11
          go_wp2_with fail
          go_ret
          exact ⟨rfl, rfl⟩
      · rw [if_neg (by omega)] at hn
        subst hn
        go_enter Tryd.func11, Tryd.ntmps11
        go_wp2_with fail
        go_ret
        exact ⟨rfl, rfl⟩
    · rw [if_neg (by omega)] at hn
      subst hn
      go_enter Tryd.func11, Tryd.ntmps11
      go_wp2_with fail
      go_ret
      exact ⟨rfl, rfl⟩
  · rw [if_neg (by omega)] at hn
    subst hn
    go_enter Tryd.func11, Tryd.ntmps11
    go_wp2_with fail
    go_ret
    exact ⟨rfl, rfl⟩
set_option maxRecDepth 100000 in
set_option maxHeartbeats 8000000 in
theorem w_f244 (s : ByteArray) (i : Nat) (hi : i < s.size) (hm : s.size ≤ 1073741824) (q0 : s[i].toNat = 244) (n : Nat) (hn : n = (if (i + 3 < s.size ∧ 128 ≤ (s.get! (i + 1)).toNat ∧ (s.get! (i + 1)).toNat ≤ 143 ∧ 128 ≤ (s.get! (i + 2)).toNat ∧ (s.get! (i + 2)).toNat ≤ 191 ∧ 128 ≤ (s.get! (i + 3)).toNat ∧ (s.get! (i + 3)).toNat ≤ 191) then 4 else 0)) : WidIs s i n := by
  intro w
  by_cases j0 : i + 3 < s.size
  · have j1 : i + 1 < s.size := by omega
    have j2 : i + 2 < s.size := by omega
    rw [get_bang s (i + 1) j1, get_bang s (i + 2) j2, get_bang s (i + 3) j0] at hn
    by_cases c1 : 128 ≤ s[i + 1].toNat
    · skip
      by_cases c2 : s[i + 1].toNat ≤ 143
      · skip
        by_cases c3 : 128 ≤ s[i + 2].toNat
        · skip
          by_cases c4 : s[i + 2].toNat ≤ 191
          · skip
            by_cases c5 : 128 ≤ s[i + 3].toNat
            · skip
              by_cases c6 : s[i + 3].toNat ≤ 191
              · skip
                rw [if_pos ⟨j0, c1, c2, c3, c4, c5, c6⟩] at hn
                subst hn
                go_enter Tryd.func11, Tryd.ntmps11
                go_wp2_with fail
                go_ret
                exact ⟨rfl, rfl⟩
              · rw [if_neg (by omega)] at hn
                subst hn
                go_enter Tryd.func11, Tryd.ntmps11
                go_wp2_with fail
                go_ret
                exact ⟨rfl, rfl⟩
            · rw [if_neg (by omega)] at hn
              subst hn
              go_enter Tryd.func11, Tryd.ntmps11
              go_wp2_with fail
              go_ret
              exact ⟨rfl, rfl⟩
          · rw [if_neg (by omega)] at hn
            subst hn
            go_enter Tryd.func11, Tryd.ntmps11
            go_wp2_with fail
            go_ret
            exact ⟨rfl, rfl⟩
        · rw [if_neg (by omega)] at hn
          subst hn
          go_enter Tryd.func11, Tryd.ntmps11
          go_wp2_with fail
          go_ret
          exact ⟨rfl, rfl⟩
      · rw [if_neg (by omega)] at hn
        subst hn
        go_enter Tryd.func11, Tryd.ntmps11
        go_wp2_with fail
        go_ret
        exact ⟨rfl, rfl⟩
    · rw [if_neg (by omega)] at hn
      subst hn
      go_enter Tryd.func11, Tryd.ntmps11
      go_wp2_with fail
      go_ret
      exact ⟨rfl, rfl⟩
  · rw [if_neg (by omega)] at hn
    subst hn
    go_enter Tryd.func11, Tryd.ntmps11
    go_wp2_with fail
    go_ret
    exact ⟨rfl, rfl⟩
set_option maxRecDepth 100000 in
set_option maxHeartbeats 8000000 in
theorem w_z2 (s : ByteArray) (i : Nat) (hi : i < s.size) (hm : s.size ≤ 1073741824) (q0 : 245 ≤ s[i].toNat) (q1 : s[i].toNat ≤ 255) (n : Nat) (hn : n = 0) : WidIs s i n := by
  intro w
  have f128 : decide ((s[i].toNat : Int) < 128) = false := decide_eq_false (by omega)
  have f194 : decide ((s[i].toNat : Int) < 194) = false := decide_eq_false (by omega)
  have f224 : decide ((s[i].toNat : Int) < 224) = false := decide_eq_false (by omega)
  have f240 : decide ((s[i].toNat : Int) < 240) = false := decide_eq_false (by omega)
  have g244 : decide ((244 : Int) < (s[i].toNat : Int)) = true := decide_eq_true (by omega)
  have e224 : ((s[i].toNat : Int) == 224) = false := by simp; omega
  have e237 : ((s[i].toNat : Int) == 237) = false := by simp; omega
  have e240 : ((s[i].toNat : Int) == 240) = false := by simp; omega
  have e244 : ((s[i].toNat : Int) == 244) = false := by simp; omega
  subst hn
  go_enter Tryd.func11, Tryd.ntmps11
  go_wp2_with fail
  go_ret
  exact ⟨rfl, rfl⟩
theorem widC (s : ByteArray) (i : Nat) (hi : i < s.size) (hm : s.size ≤ 1073741824) : WidIs s i (wid s i) := by
  have hg := get_bang s i hi
  have hb := UInt8.toNat_lt s[i]
  unfold wid
  by_cases h : (s.get! i).toNat < 128
  · rw [if_pos h]
    rw [hg] at h
    exact w_a s i hi hm (Nat.zero_le _) (by omega) _ rfl
  · rw [if_neg h, seqS_def]
    rw [hg] at h ⊢
    rcases (show s[i].toNat < 194 ∨ (194 ≤ s[i].toNat ∧ s[i].toNat ≤ 223) ∨ s[i].toNat = 224 ∨ (225 ≤ s[i].toNat ∧ s[i].toNat ≤ 236) ∨ s[i].toNat = 237 ∨ (238 ≤ s[i].toNat ∧ s[i].toNat ≤ 239) ∨ s[i].toNat = 240 ∨ (241 ≤ s[i].toNat ∧ s[i].toNat ≤ 243) ∨ s[i].toNat = 244 ∨ 245 ≤ s[i].toNat by omega) with q | ⟨q, q1⟩ | q | ⟨q, q1⟩ | q | ⟨q, q1⟩ | q | ⟨q, q1⟩ | q | q
    · rw [if_neg (by omega), if_neg (by omega), if_neg (by omega)]
      exact w_z1 s i hi hm (by omega) (by omega) _ rfl
    · rw [if_pos ⟨q, q1⟩, if2]
      exact w_two s i hi hm q q1 _ rfl
    · rw [if_neg (by omega), if_pos (by omega), if3, show lo3 s[i].toNat = 160 by unfold lo3; rw [if_pos (by omega)], show hi3 s[i].toNat = 191 by unfold hi3; rw [if_neg (by omega)]]
      exact w_t224 s i hi hm q _ rfl
    · rw [if_neg (by omega), if_pos (by omega), if3, show lo3 s[i].toNat = 128 by unfold lo3; rw [if_neg (by omega)], show hi3 s[i].toNat = 191 by unfold hi3; rw [if_neg (by omega)]]
      exact w_t3a s i hi hm q q1 _ rfl
    · rw [if_neg (by omega), if_pos (by omega), if3, show lo3 s[i].toNat = 128 by unfold lo3; rw [if_neg (by omega)], show hi3 s[i].toNat = 159 by unfold hi3; rw [if_pos (by omega)]]
      exact w_t237 s i hi hm q _ rfl
    · rw [if_neg (by omega), if_pos (by omega), if3, show lo3 s[i].toNat = 128 by unfold lo3; rw [if_neg (by omega)], show hi3 s[i].toNat = 191 by unfold hi3; rw [if_neg (by omega)]]
      exact w_t3b s i hi hm q q1 _ rfl
    · rw [if_neg (by omega), if_neg (by omega), if_pos (by omega), if4, show lo4 s[i].toNat = 144 by unfold lo4; rw [if_pos (by omega)], show hi4 s[i].toNat = 191 by unfold hi4; rw [if_neg (by omega)]]
      exact w_f240 s i hi hm q _ rfl
    · rw [if_neg (by omega), if_neg (by omega), if_pos (by omega), if4, show lo4 s[i].toNat = 128 by unfold lo4; rw [if_neg (by omega)], show hi4 s[i].toNat = 191 by unfold hi4; rw [if_neg (by omega)]]
      exact w_f4a s i hi hm q q1 _ rfl
    · rw [if_neg (by omega), if_neg (by omega), if_pos (by omega), if4, show lo4 s[i].toNat = 128 by unfold lo4; rw [if_neg (by omega)], show hi4 s[i].toNat = 143 by unfold hi4; rw [if_pos (by omega)]]
      exact w_f244 s i hi hm q _ rfl
    · rw [if_neg (by omega), if_neg (by omega), if_neg (by omega)]
      exact w_z2 s i hi hm q (by omega) _ rfl
end Go.Proofs.YtjflnoghecnigaaDoor

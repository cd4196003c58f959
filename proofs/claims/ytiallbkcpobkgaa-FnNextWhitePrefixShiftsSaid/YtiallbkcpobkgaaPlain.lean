/-
  Plain facts on comments and blanks: 'scan' finds a comment's end byte by byte (p: an odd run of backslashes stands before; q: a carriage return that was escaped stands before), 'NX' the first byte that is neither blank nor inside a comment.
-/
import Derived.WalkKit
namespace Go.Proofs.Ytiallbkcpobkgaa
set_option linter.unusedVariables false
def byteAt (s : ByteArray) (i : Nat) : Nat := if h : i < s.size then s[i].toNat else 0
theorem byteAt_lt (s : ByteArray) (i : Nat) : byteAt s i < 256 := by
  unfold byteAt
  split
  · exact UInt8.toNat_lt _
  · omega
theorem byteAt_in (s : ByteArray) (i : Nat) (h : i < s.size) : s[i].toNat = byteAt s i := by unfold byteAt; rw [dif_pos h]
theorem byteAt_out (s : ByteArray) (i : Nat) (h : s.size ≤ i) : byteAt s i = 0 := by unfold byteAt; rw [dif_neg (by omega)]
theorem byteAt_ne (s : ByteArray) (i : Nat) (h : byteAt s i ≠ 0) : i < s.size := by
  by_cases hi : i < s.size
  · exact hi
  · exact absurd (byteAt_out s i (by omega)) h
def scan (b : Nat → Nat) : Nat → Nat → Bool → Bool → Nat × Bool
  | 0, e, _, _ => (e, true)
  | f + 1, e, p, q =>
    if b e = 0 then (e, true)
    else if b e = 10 ∨ b e = 13 then (if (p || (decide (b e = 10) && q)) = true then scan b f (e + 1) false (decide (b e = 13) && p) else (e, false))
    else if b e = 92 then scan b f (e + 1) (!p) false
    else scan b f (e + 1) false false
def run (b : Nat → Nat) (start : Nat) : Nat → Nat
  | 0 => 0
  | e + 1 => if start ≤ e ∧ b e = 92 then run b start e + 1 else 0
def pAt (b : Nat → Nat) (start e : Nat) : Bool := decide (run b start e % 2 = 1)
def qAt (b : Nat → Nat) (start e : Nat) : Bool := decide (start < e) && (decide (b (e - 1) = 13) && decide (run b start (e - 1) % 2 = 1))
/-- The comment that begins at start ends there; true: at the text's end or at a NUL. -/
def cend (s : ByteArray) (start : Nat) : Nat × Bool := scan (byteAt s) (s.size - start) start false false
theorem p_start (b : Nat → Nat) (start : Nat) : pAt b start start = false := by
  unfold pAt
  cases start with
  | zero => rfl
  | succ n => rw [run, if_neg (by omega)]; rfl
theorem q_start (b : Nat → Nat) (start : Nat) : qAt b start start = false := by unfold qAt; simp
theorem run_not (b : Nat → Nat) (start e : Nat) (h : b e ≠ 92) : run b start (e + 1) = 0 := by simp [run, h]
theorem run_yes (b : Nat → Nat) (start e : Nat) (hs : start ≤ e) (h : b e = 92) : run b start (e + 1) = run b start e + 1 := by simp [run, h, hs]
theorem p_not (b : Nat → Nat) (start e : Nat) (h : b e ≠ 92) : pAt b start (e + 1) = false := by unfold pAt; rw [run_not b start e h]; rfl
theorem p_yes (b : Nat → Nat) (start e : Nat) (hs : start ≤ e) (h : b e = 92) : pAt b start (e + 1) = !pAt b start e := by
  unfold pAt
  rw [run_yes b start e hs h]
  by_cases hp : run b start e % 2 = 1
  · rw [decide_eq_true hp, decide_eq_false (by omega)]; rfl
  · rw [decide_eq_false hp, decide_eq_true (by omega)]; rfl
theorem q_next (b : Nat → Nat) (start e : Nat) (hs : start ≤ e) : qAt b start (e + 1) = (decide (b e = 13) && pAt b start e) := by
  unfold qAt pAt
  rw [decide_eq_true (show start < e + 1 by omega), Nat.add_sub_cancel, Bool.true_and]
/-- The scan from e on, with what stands before e. -/
def rest (s : ByteArray) (start e : Nat) : Nat × Bool := scan (byteAt s) (s.size - e) e (pAt (byteAt s) start e) (qAt (byteAt s) start e)
theorem rest_start (s : ByteArray) (start : Nat) : rest s start start = cend s start := by unfold rest cend; rw [p_start, q_start]
theorem fuel (s : ByteArray) (e : Nat) (h : e < s.size) : s.size - e = (s.size - (e + 1)) + 1 := by omega
theorem rest_end (s : ByteArray) (start : Nat) : rest s start s.size = (s.size, true) := by unfold rest; rw [Nat.sub_self]; rfl
theorem rest_nul (s : ByteArray) (start e : Nat) (h : e < s.size) (hb : byteAt s e = 0) : rest s start e = (e, true) := by
  unfold rest; rw [fuel s e h, scan, if_pos hb]
theorem rest_stop (s : ByteArray) (start e : Nat) (h : e < s.size) (hb : byteAt s e = 10 ∨ byteAt s e = 13) (hn : (pAt (byteAt s) start e || (decide (byteAt s e = 10) && qAt (byteAt s) start e)) = false) : rest s start e = (e, false) := by
  unfold rest; rw [fuel s e h, scan, if_neg (by omega), if_pos hb, hn, if_neg (by simp)]
theorem rest_esc (s : ByteArray) (start e : Nat) (h : e < s.size) (hs : start ≤ e) (hb : byteAt s e = 10 ∨ byteAt s e = 13) (hn : (pAt (byteAt s) start e || (decide (byteAt s e = 10) && qAt (byteAt s) start e)) = true) : rest s start e = rest s start (e + 1) := by
  unfold rest; rw [fuel s e h, scan, if_neg (by omega), if_pos hb, hn, if_pos rfl, p_not _ _ _ (by omega), q_next _ _ _ hs]
theorem rest_bs (s : ByteArray) (start e : Nat) (h : e < s.size) (hs : start ≤ e) (hb : byteAt s e = 92) : rest s start e = rest s start (e + 1) := by
  unfold rest; rw [fuel s e h, scan, if_neg (by omega), if_neg (by omega), if_pos hb, p_yes _ _ _ hs hb, q_next _ _ _ hs]
  have : decide (byteAt s e = 13) = false := decide_eq_false (by omega)
  rw [this]; rfl
theorem rest_other (s : ByteArray) (start e : Nat) (h : e < s.size) (hs : start ≤ e) (h0 : byteAt s e ≠ 0) (h1 : byteAt s e ≠ 10) (h2 : byteAt s e ≠ 13) (h3 : byteAt s e ≠ 92) : rest s start e = rest s start (e + 1) := by
  unfold rest; rw [fuel s e h, scan, if_neg h0, if_neg (by omega), if_neg h3, p_not _ _ _ h3, q_next _ _ _ hs]
  have : decide (byteAt s e = 13) = false := decide_eq_false h2
  rw [this]; rfl
theorem cend_nul (s : ByteArray) (e : Nat) (hb : byteAt s e = 0) : cend s e = (e, true) := by
  by_cases h : e < s.size
  · unfold cend; rw [fuel s e h, scan, if_pos hb]
  · unfold cend; rw [show s.size - e = 0 by omega]; rfl
theorem cend_nl (s : ByteArray) (e : Nat) (hb : byteAt s e = 10 ∨ byteAt s e = 13) : cend s e = (e, false) := by
  have h := byteAt_ne s e (by omega)
  unfold cend; rw [fuel s e h, scan, if_neg (by omega), if_pos hb, if_neg (by simp)]
theorem cend_other (s : ByteArray) (e : Nat) (h0 : byteAt s e ≠ 0) (h1 : byteAt s e ≠ 10) (h2 : byteAt s e ≠ 13) (h3 : byteAt s e ≠ 92) : cend s e = cend s (e + 1) := by
  have h := byteAt_ne s e h0
  unfold cend; rw [fuel s e h, scan, if_neg h0, if_neg (by omega), if_neg h3]
theorem cend_bs1 (s : ByteArray) (e : Nat) (h : byteAt s e = 92) (h1 : byteAt s (e + 1) = 92 ∨ byteAt s (e + 1) = 10) : cend s e = cend s (e + 2) := by
  have g := byteAt_ne s e (by omega)
  have g1 := byteAt_ne s (e + 1) (by omega)
  unfold cend; rw [fuel s e g, scan, if_neg (by omega), if_neg (by omega), if_pos h, fuel s (e + 1) g1, scan, if_neg (by omega)]
  rcases h1 with h1 | h1
  · rw [if_neg (by omega), if_pos h1]; rfl
  · rw [if_pos (by omega), if_pos (by simp)]
    have : decide (byteAt s (e + 1) = 13) = false := decide_eq_false (by omega)
    rw [this]; rfl
theorem scan_q (b : Nat → Nat) (f e : Nat) (h : b e ≠ 10) : scan b f e false true = scan b f e false false := by
  cases f with
  | zero => rfl
  | succ f => simp only [scan, decide_eq_false h, Bool.false_and, Bool.or_self]
theorem scan_p (b : Nat → Nat) (f e : Nat) (h1 : b e ≠ 10) (h2 : b e ≠ 13) (h3 : b e ≠ 92) : scan b f e true false = scan b f e false false := by
  cases f with
  | zero => rfl
  | succ f => simp only [scan, if_neg h3, if_neg (show ¬ (b e = 10 ∨ b e = 13) by omega)]
theorem cend_cr1 (s : ByteArray) (e : Nat) (h : byteAt s e = 92) (h1 : byteAt s (e + 1) = 13) (h2 : byteAt s (e + 2) = 10) : cend s e = cend s (e + 3) := by
  have g := byteAt_ne s e (by omega)
  have g1 := byteAt_ne s (e + 1) (by omega)
  have g2 := byteAt_ne s (e + 2) (by omega)
  unfold cend; rw [fuel s e g, scan, if_neg (by omega), if_neg (by omega), if_pos h, fuel s (e + 1) g1, scan, if_neg (by omega), if_pos (.inr h1), if_pos (by simp)]
  have d1 : decide (byteAt s (e + 1) = 13) = true := decide_eq_true h1
  rw [d1, show s.size - (e + 1 + 1) = (s.size - (e + 3)) + 1 by omega, scan, if_neg (by show byteAt s (e + 2) ≠ 0; omega), if_pos (.inl h2)]
  have d2 : decide (byteAt s (e + 2) = 10) = true := decide_eq_true h2
  have d3 : decide (byteAt s (e + 2) = 13) = false := decide_eq_false (by omega)
  have d2' : decide (byteAt s (e + 1 + 1) = 10) = true := d2
  have d3' : decide (byteAt s (e + 1 + 1) = 13) = false := d3
  rw [d2', d3', if_pos (by rfl)]; rfl
theorem cend_cr2 (s : ByteArray) (e : Nat) (h : byteAt s e = 92) (h1 : byteAt s (e + 1) = 13) (h2 : byteAt s (e + 2) ≠ 10) : cend s e = cend s (e + 2) := by
  have g := byteAt_ne s e (by omega)
  have g1 := byteAt_ne s (e + 1) (by omega)
  unfold cend; rw [fuel s e g, scan, if_neg (by omega), if_neg (by omega), if_pos h, fuel s (e + 1) g1, scan, if_neg (by omega), if_pos (.inr h1), if_pos (by simp)]
  have d1 : decide (byteAt s (e + 1) = 13) = true := decide_eq_true h1
  rw [d1]
  exact scan_q _ _ _ h2
theorem cend_bs2 (s : ByteArray) (e : Nat) (h : byteAt s e = 92) (h1 : byteAt s (e + 1) ≠ 92) (h2 : byteAt s (e + 1) ≠ 10) (h3 : byteAt s (e + 1) ≠ 13) : cend s e = cend s (e + 1) := by
  have g := byteAt_ne s e (by omega)
  unfold cend; rw [fuel s e g, scan, if_neg (by omega), if_neg (by omega), if_pos h]
  exact scan_p _ _ _ h2 h3 h1
/-- What the scan's end looks like. -/
def EndOk (b : Nat → Nat) (n e : Nat) (r : Nat × Bool) : Prop := e ≤ r.1 ∧ r.1 ≤ n ∧ (∀ i, e ≤ i → i < r.1 → b i ≠ 0) ∧ (r.2 = true → r.1 = n ∨ b r.1 = 0) ∧ (r.2 = false → r.1 < n ∧ (b r.1 = 10 ∨ b r.1 = 13))
theorem EndOk.step {b : Nat → Nat} {n e : Nat} {r : Nat × Bool} (h : EndOk b n (e + 1) r) (h0 : b e ≠ 0) : EndOk b n e r := by
  obtain ⟨h1, h2, h3, h4, h5⟩ := h
  refine ⟨by omega, h2, fun i hi hr => ?_, h4, h5⟩
  by_cases he : i = e
  · subst he; exact h0
  · exact h3 i (by omega) hr
theorem scan_ok (b : Nat → Nat) : ∀ (f e : Nat) (p q : Bool), EndOk b (e + f) e (scan b f e p q)
  | 0, e, p, q => ⟨Nat.le_refl _, Nat.le_refl _, fun i h1 h2 => absurd h2 (by show ¬ i < e; omega), fun _ => .inl rfl, fun h => by cases h⟩
  | f + 1, e, p, q => by
    have hn : ∀ p q, EndOk b (e + (f + 1)) (e + 1) (scan b f (e + 1) p q) := fun p q => by
      have := scan_ok b f (e + 1) p q
      rwa [show e + 1 + f = e + (f + 1) by omega] at this
    rw [scan]
    by_cases h0 : b e = 0
    · rw [if_pos h0]
      exact ⟨Nat.le_refl _, Nat.le_add_right _ _, fun i h1 h2 => absurd h2 (by show ¬ i < e; omega), fun _ => .inr h0, fun h => by cases h⟩
    · rw [if_neg h0]
      by_cases h1 : b e = 10 ∨ b e = 13
      · rw [if_pos h1]
        by_cases h2 : (p || (decide (b e = 10) && q)) = true
        · rw [if_pos h2]; exact (hn _ _).step h0
        · rw [if_neg h2]
          exact ⟨Nat.le_refl _, Nat.le_add_right _ _, fun i h3 h4 => absurd h4 (by show ¬ i < e; omega), (fun h => by cases h), fun _ => ⟨by show e < e + (f + 1); omega, h1⟩⟩
      · rw [if_neg h1]
        by_cases h2 : b e = 92
        · rw [if_pos h2]; exact (hn _ _).step h0
        · rw [if_neg h2]; exact (hn _ _).step h0
theorem cend_ok (s : ByteArray) (e : Nat) (h : e ≤ s.size) : EndOk (byteAt s) s.size e (cend s e) := by
  have := scan_ok (byteAt s) (s.size - e) e false false
  rwa [show e + (s.size - e) = s.size by omega] at this
def white (c : Nat) : Bool := decide (c = 9) || (decide (c = 10) || (decide (c = 13) || decide (c = 32)))
/-- The first byte from i on that is neither blank nor inside a comment; whether the end came first; the offset behind it. -/
def NX (s : ByteArray) (i : Nat) : Nat × Bool × Nat :=
  if h : i < s.size then
    if byteAt s i = 35 then (if (cend s (i + 1)).2 = true then (0, true, (cend s (i + 1)).1) else NX s (cend s (i + 1)).1)
    else if white (byteAt s i) = true then NX s (i + 1) else (byteAt s i, false, i + 1)
  else (0, true, s.size)
termination_by s.size - i
decreasing_by
  · have h1 := (cend_ok s (i + 1) (by omega)).1
    omega
  · omega
theorem NX_end (s : ByteArray) (i : Nat) (h : s.size ≤ i) : NX s i = (0, true, s.size) := by rw [NX, dif_neg (by omega)]
theorem NX_stop (s : ByteArray) (i : Nat) (h : byteAt s i = 35) (hc : (cend s (i + 1)).2 = true) : NX s i = (0, true, (cend s (i + 1)).1) := by
  rw [NX, dif_pos (byteAt_ne s i (by omega)), if_pos h, if_pos hc]
theorem NX_go (s : ByteArray) (i : Nat) (h : byteAt s i = 35) (hc : (cend s (i + 1)).2 = false) : NX s i = NX s (cend s (i + 1)).1 := by
  rw [NX, dif_pos (byteAt_ne s i (by omega)), if_pos h, hc, if_neg (by simp)]
theorem NX_white (s : ByteArray) (i : Nat) (hi : i < s.size) (h : byteAt s i ≠ 35) (hw : white (byteAt s i) = true) : NX s i = NX s (i + 1) := by
  rw [NX, dif_pos hi, if_neg h, if_pos hw]
theorem NX_hit (s : ByteArray) (i : Nat) (hi : i < s.size) (h : byteAt s i ≠ 35) (hw : white (byteAt s i) = false) : NX s i = (byteAt s i, false, i + 1) := by
  rw [NX, dif_pos hi, if_neg h, hw, if_neg (by simp)]
end Go.Proofs.Ytiallbkcpobkgaa

/-
  Contracts of the lexer (n001_85): newLexer, peek, skipComment, next.
-/
import Derived.Test.YtiallbkcpobkgaaBase
namespace Go.Proofs.Ytiallbkcpobkgaa
set_option linter.unusedVariables false
open Go.ChangeShapes Go.WideShapes Go.ChangeAt Go.RowKit M
/-- Every block of w but those of S is in w' as it was. -/
structure Touch (S : Nat → Prop) (w w' : World) : Prop where
  os : w'.os = w.os
  tape : w'.tape = w.tape
  output : w'.output = w.output
  size : w.heap.size ≤ w'.heap.size
  block : ∀ k, k < w.heap.size → ¬ S k → w'.heap[k]? = w.heap[k]?
theorem Touch.refl (S : Nat → Prop) (w : World) : Touch S w w := ⟨rfl, rfl, rfl, Nat.le_refl _, fun _ _ _ => rfl⟩
theorem Touch.trans {S : Nat → Prop} {a b c : World} (h : Touch S a b) (k : Touch S b c) : Touch S a c :=
  ⟨k.os.trans h.os, k.tape.trans h.tape, k.output.trans h.output, Nat.le_trans h.size k.size, fun i hi hn => (k.block i (Nat.lt_of_lt_of_le hi h.size) hn).trans (h.block i hi hn)⟩
theorem Touch.mono {S T : Nat → Prop} {a b : World} (h : Touch S a b) (hst : ∀ k, k < a.heap.size → S k → T k) : Touch T a b :=
  ⟨h.os, h.tape, h.output, h.size, fun i hi hn => h.block i hi (fun hs => hn (hst i hi hs))⟩
theorem Touch.below {S : Nat → Prop} {a b : World} {B : Nat} (h : Touch S a b) (hB : B ≤ a.heap.size) (hS : ∀ k, k < B → ¬ S k) : Below B a b :=
  ⟨h.os, h.tape, h.output, h.size, fun k hk => h.block k (by omega) (hS k hk)⟩
theorem Touch.of_below {a b : World} (h : Below a.heap.size a b) (S : Nat → Prop) : Touch S a b := ⟨h.os, h.tape, h.output, h.size, fun k hk _ => h.block k hk⟩
theorem Touch.drew {S : Nat → Prop} {a b : World} (h : Touch S a b) : Touch S a b.drew := ⟨h.os, h.tape, h.output, h.size, h.block⟩
theorem Touch.drewN {S : Nat → Prop} {a b : World} (h : Touch S a b) (n : Nat) : Touch S a (b.drewN n) := ⟨h.os, h.tape, h.output, h.size, h.block⟩
theorem Touch.alloc {S : Nat → Prop} {a b : World} (h : Touch S a b) (o : Obj) : Touch S a (b.alloc o) :=
  h.trans ⟨rfl, rfl, rfl, by simp, fun k hk _ => Below.heap_alloc _ _ _ hk⟩
theorem Touch.setCell {S : Nat → Prop} {a b : World} (h : Touch S a b) {p : Addr} (hp : p.block < a.heap.size → S p.block) (u : Value) : Touch S a (b.setCell p u) := by
  refine ⟨h.os, h.tape, h.output, by simpa [World.setCell] using h.size, fun k hk hn => ?_⟩
  rw [Below.heap_setCell _ _ _ _ (fun e => hn (by rw [e]; exact hp (by omega)))]
  exact h.block k hk hn
theorem Touch.setP {p : Nat} {a b : World} (h : Touch (· = p) a b) (i : Nat) (u : Value) : Touch (· = p) a (b.setCell ⟨p, i, none⟩ u) := h.setCell (p := ⟨p, i, none⟩) (fun _ => rfl) u
theorem M.Row.touch {S : Nat → Prop} {w w' : World} {g : Nat} {t : TypeId} {cs : Array Value} (h : Row w g t cs) (ht : Touch S w w') (hn : ¬ S g) : Row w' g t cs := (ht.block g h.lt hn).trans h
def lx (s : ByteArray) (off : Nat) : Array Value := #[.string s, .int .i64 off, .pointer none, .string ByteArray.empty, .int .i64 0, .bool false, .nilIface]
/-- The lexer at block p: its source s, its offset off. -/
def LX (w : World) (p : Nat) (s : ByteArray) (off : Nat) : Prop := Row w p 40 (lx s off)
theorem LX.c0 {w : World} {p : Nat} {s : ByteArray} {off : Nat} (h : LX w p s off) : w.cell? ⟨p, 0, none⟩ = some (.string s) := Row.cell h 0
theorem LX.c1 {w : World} {p : Nat} {s : ByteArray} {off : Nat} (h : LX w p s off) : w.cell? ⟨p, 1, none⟩ = some (.int .i64 off) := Row.cell h 1
theorem LX.f1 {w : World} {p : Nat} {s : ByteArray} {off : Nat} (h : LX w p s off) : w.frozen? ⟨p, 1, none⟩ = false := Row.free h 1
theorem LX.put {w : World} {p : Nat} {s : ByteArray} {off : Nat} (h : LX w p s off) (o : Nat) : LX (w.setCell ⟨p, 1, none⟩ (.int .i64 o)) p s o := Row.put h 1 _
theorem LX.drewN {w : World} {p : Nat} {s : ByteArray} {off : Nat} (h : LX w p s off) (n : Nat) : LX (w.drewN n) p s off := Row.drewN h n
theorem new_lexer (s : ByteArray) (w : World) : Calls Try.prog 8 #[.string s] w fun e w' => e = .returned (.pointer (some ⟨w.heap.size, 0, none⟩)) ∧ LX w' w.heap.size s 0 ∧ Below w.heap.size w w' := by
  go_enter Try.func8, Try.ntmps8
  go_wp2
  go_ret
  exact ⟨rfl, Row.made _ _ _, (Below.refl _ _).alloc (Nat.le_refl _) _⟩
def NoEnd : Ending := .returned (.tuple #[])
theorem set_off (s : ByteArray) (p off o : Nat) (w : World) (h : LX w p s off) : Calls Try.prog 9 #[.pointer (some ⟨p, 0, none⟩), .int .i64 o] w fun e w' => e = NoEnd ∧ LX w' p s o ∧ Touch (· = p) w w' := by
  have H := Lib.hid h
  have c1 := h.c1
  have f1 := h.f1
  clear h
  go_enter Try.func9, Try.ntmps9
  go_wp2
  go_end0
  exact ⟨rfl, H.out.put o, (Touch.refl _ _).setP _ _⟩
theorem peek (s : ByteArray) (p off : Nat) (w : World) (h : LX w p s off) (hs : s.size ≤ 1048577) (ho : off ≤ s.size) : Calls Try.prog 24 #[.pointer (some ⟨p, 0, none⟩)] w (Ret (.int .u8 (byteAt s off : Nat)) w) := by
  have c0 := h.c0
  have c1 := h.c1
  clear h
  by_cases hlt : off < s.size
  · have h1 : ((s.size : Int) == (off : Int)) = false := by rw [beq_eq_false_iff_ne]; omega
    have i0 : (0 : Int) ≤ (off : Int) := by omega
    have i1 : (off : Int) < (s.size : Int) := by omega
    have HB := Lib.hid (byteAt_in s off hlt)
    go_enter Try.func24, Try.ntmps24
    go_wp2
    go_quiet (fail)
    go_wp2
    go_quiet (fail)
    go_wp2
    go_ret
    exact ⟨by rw [← HB.out]; rfl, _, drewNN _ _ _⟩
  · have h1 : ((s.size : Int) == (off : Int)) = true := by rw [beq_iff_eq]; omega
    have HB := Lib.hid (byteAt_out s off (by omega))
    go_enter Try.func24, Try.ntmps24
    go_wp2
    go_quiet (fail)
    go_wp2
    go_ret
    exact ⟨by rw [HB.out]; rfl, _, rfl⟩
theorem LX.set {w : World} {p : Nat} {s : ByteArray} {off : Nat} (h : LX w p s off) (x : Int) (o : Nat) (hx : x = (o : Int)) : LX (w.setCell ⟨p, 1, none⟩ (.int .i64 x)) p s o := by subst hx; exact h.put o
def SkipOut (s : ByteArray) (p : Nat) (r : Nat × Bool) (w : World) (e : Ending) (w' : World) : Prop := e = .returned (.bool r.2) ∧ LX w' p s r.1 ∧ Touch (· = p) w w'
set_option maxHeartbeats 4000000 in
theorem skip_comment (s : ByteArray) (p off : Nat) (w : World) (h : LX w p s off) (hs : s.size ≤ 1048577) (ho : off ≤ s.size) : Calls Try.prog 20 #[.pointer (some ⟨p, 0, none⟩)] w (SkipOut s p (cend s off) w) := by
  have H := Lib.hid h
  clear h
  go_enter Try.func20, Try.ntmps20
  go_wp2_with fail
  go_loopg [] (s.size + 1 - off) (fun k wr => ∃ o : Nat, o ≤ s.size ∧ k = s.size + 1 - o ∧ cend s o = cend s off ∧ LX wr p s o ∧ Touch (· = p) w wr)
  case atStart => exact ⟨off, ho, rfl, rfl, H.out, Touch.refl _ _⟩
  case round =>
    obtain ⟨o, hos, hk, hc, hL, hT⟩ := hrel
    have HK := Lib.hid hk
    have HC := Lib.hid hc
    have HL := Lib.hid hL
    have HT := Lib.hid hT
    clear hk hc hL hT H
    go_wp2_with fail
    refine (peek s p o _ HL.out hs hos).mono ?_
    rintro e w1 ⟨rfl, m, rfl⟩
    obtain ⟨b, hb⟩ : ∃ b, byteAt s o = b := ⟨_, rfl⟩
    rw [hb]
    have HB := Lib.hid hb
    clear hb
    have L1 := Lib.hid (HL.out.drewN m)
    have T1 := Lib.hid (HT.out.drewN m)
    have c1 := L1.out.c1
    have f1 := L1.out.f1
    by_cases h0 : b = 0
    · subst h0
      have HX := Lib.hid (HC.out.symm.trans (cend_nul s o HB.out))
      go_wp2_with fail
      go_ret
      refine ⟨by rw [HX.out]; rfl, ?_, T1.out⟩
      rw [HX.out]; exact L1.out
    · have t0 : ((b : Int) == 0) = false := by rw [beq_eq_false_iff_ne]; omega
      have hlt := byteAt_ne s o (by rw [HB.out]; exact h0)
      by_cases h92 : b = 92
      · subst h92
        go_wp2_with fail
        have L2 := Lib.hid (L1.out.set _ (o + 1) (by push_cast; rfl))
        have T2 := Lib.hid (T1.out.setP 1 (.int .i64 ((o : Int) + 1)))
        clear c1 f1
        refine (peek s p (o + 1) _ L2.out hs (by omega)).mono ?_
        rintro e w1 ⟨rfl, m2, rfl⟩
        obtain ⟨b2, hb2⟩ : ∃ b, byteAt s (o + 1) = b := ⟨_, rfl⟩
        rw [hb2]
        have HB2 := Lib.hid hb2
        clear hb2
        have L3 := Lib.hid (L2.out.drewN m2)
        have T3 := Lib.hid (T2.out.drewN m2)
        have c1 := L3.out.c1
        have f1 := L3.out.f1
        by_cases g92 : b2 = 92
        · subst g92
          have HX := Lib.hid ((cend_bs1 s o HB.out (.inl HB2.out)).symm.trans HC.out)
          have hlt2 := byteAt_ne s (o + 1) (by rw [HB2.out]; omega)
          go_wp2_with fail
          go_roundg (s.size + 1 - (o + 2))
          case measure => have := HK.out; omega
          case rel => exact ⟨o + 2, by omega, rfl, HX.out, L3.out.set _ (o + 2) (by push_cast; omega), T3.out.setP _ _⟩
        · have u1 : ((b2 : Int) == 92) = false := by rw [beq_eq_false_iff_ne]; omega
          by_cases g10 : b2 = 10
          · subst g10
            have HX := Lib.hid ((cend_bs1 s o HB.out (.inr HB2.out)).symm.trans HC.out)
            have hlt2 := byteAt_ne s (o + 1) (by rw [HB2.out]; omega)
            go_wp2_with fail
            go_roundg (s.size + 1 - (o + 2))
            case measure => have := HK.out; omega
            case rel => exact ⟨o + 2, by omega, rfl, HX.out, L3.out.set _ (o + 2) (by push_cast; omega), T3.out.setP _ _⟩
          · have u2 : ((b2 : Int) == 10) = false := by rw [beq_eq_false_iff_ne]; omega
            by_cases g13 : b2 = 13
            · subst g13
              have hlt2 := byteAt_ne s (o + 1) (by rw [HB2.out]; omega)
              go_wp2_with fail
              have L4 := Lib.hid (fun (x : Int) (hx : x = ((o + 2 : Nat) : Int)) => L3.out.set x (o + 2) hx)
              clear c1 f1
              refine (peek s p (o + 2) _ (L4.out _ (by omega)) hs (by omega)).mono ?_
              rintro e w1 ⟨rfl, m3, rfl⟩
              obtain ⟨b3, hb3⟩ : ∃ b, byteAt s (o + 2) = b := ⟨_, rfl⟩
              rw [hb3]
              have HB3 := Lib.hid hb3
              clear hb3
              have L5 := Lib.hid ((L4.out ((o : Int) + 1 + 1) (by omega)).drewN m3)
              have T5 := Lib.hid ((T3.out.setP 1 (.int .i64 ((o : Int) + 1 + 1))).drewN m3)
              have c1 := L5.out.c1
              have f1 := L5.out.f1
              by_cases k10 : b3 = 10
              · subst k10
                have HX := Lib.hid ((cend_cr1 s o HB.out HB2.out HB3.out).symm.trans HC.out)
                have hlt3 := byteAt_ne s (o + 2) (by rw [HB3.out]; omega)
                go_wp2_with fail
                go_roundg (s.size + 1 - (o + 3))
                case measure => have := HK.out; omega
                case rel => exact ⟨o + 3, by omega, rfl, HX.out, L5.out.set _ (o + 3) (by push_cast; omega), T5.out.setP _ _⟩
              · have v1 : ((b3 : Int) == 10) = false := by rw [beq_eq_false_iff_ne]; omega
                have HX := Lib.hid ((cend_cr2 s o HB.out HB2.out (by rw [HB3.out]; exact k10)).symm.trans HC.out)
                go_wp2_with fail
                go_roundg (s.size + 1 - (o + 2))
                case measure => have := HK.out; omega
                case rel => exact ⟨o + 2, by omega, rfl, HX.out, L5.out, T5.out⟩
            · have u3 : ((b2 : Int) == 13) = false := by rw [beq_eq_false_iff_ne]; omega
              have HX := Lib.hid ((cend_bs2 s o HB.out (by rw [HB2.out]; exact g92) (by rw [HB2.out]; exact g10) (by rw [HB2.out]; exact g13)).symm.trans HC.out)
              go_wp2_with fail
              go_roundg (s.size + 1 - (o + 1))
              case measure => have := HK.out; omega
              case rel => exact ⟨o + 1, by omega, rfl, HX.out, L3.out, T3.out⟩
      · have t1 : ((b : Int) == 92) = false := by rw [beq_eq_false_iff_ne]; omega
        by_cases h10 : b = 10
        · subst h10
          have HX := Lib.hid (HC.out.symm.trans (cend_nl s o (.inl HB.out)))
          go_wp2_with fail
          go_ret
          refine ⟨by rw [HX.out]; rfl, ?_, T1.out⟩
          rw [HX.out]; exact L1.out
        · have t2 : ((b : Int) == 10) = false := by rw [beq_eq_false_iff_ne]; omega
          by_cases h13 : b = 13
          · subst h13
            have HX := Lib.hid (HC.out.symm.trans (cend_nl s o (.inr HB.out)))
            go_wp2_with fail
            go_ret
            refine ⟨by rw [HX.out]; rfl, ?_, T1.out⟩
            rw [HX.out]; exact L1.out
          · have t3 : ((b : Int) == 13) = false := by rw [beq_eq_false_iff_ne]; omega
            have HX := Lib.hid ((cend_other s o (by rw [HB.out]; exact h0) (by rw [HB.out]; exact h10) (by rw [HB.out]; exact h13) (by rw [HB.out]; exact h92)).symm.trans HC.out)
            go_wp2_with fail
            go_roundg (s.size + 1 - (o + 1))
            case measure => have := HK.out; omega
            case rel => exact ⟨o + 1, by omega, rfl, HX.out, L1.out.set _ (o + 1) (by push_cast; rfl), T1.out.setP _ _⟩
end Go.Proofs.Ytiallbkcpobkgaa

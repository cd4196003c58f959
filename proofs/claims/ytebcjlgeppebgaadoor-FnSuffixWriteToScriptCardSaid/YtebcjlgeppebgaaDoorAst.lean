/-
  gojq's syntax tree in memory and its printer's contracts (n001_84).
-/
import Derived.Test.YtebcjlgeppebgaaDoorBld
import Derived.Test.YtebcjlgeppebgaaDoorPlain
namespace Go.Proofs.YtebcjlgeppebgaaDoor
set_option linter.unusedVariables false
open Go.ChangeShapes Go.WideShapes Go.ChangeAt Go.RowKit M
abbrev np : Value := .pointer none
abbrev sn : Value := .slice none 0 0
abbrev es : Value := .string ⟨#[]⟩
abbrev pt (b : Nat) : Value := .pointer (some ⟨b, 0, none⟩)
abbrev termCells (ty : Int) (ix ar : Value) (num : ByteArray) : Array Value := #[.int .i64 ty, ix, np, np, ar, .string num, np, es, np, np, np, np, np, np, es, np, sn]
abbrev queryCells (t l r : Value) (op : Int) : Array Value := #[np, sn, sn, t, l, r, sn, .int .i64 op]
abbrev indexCells (nm : ByteArray) (s e : Value) (sl : Bool) : Array Value := #[.string nm, np, s, e, .bool sl]
def IsQ (w : World) : Nat → Qy → Prop
  | n, .num t => ∃ m, Row w n 73 (queryCells (pt m) np np 0) ∧ Row w m 66 (termCells 10 np np t)
  | n, .idx nm => ∃ m k, Row w n 73 (queryCells (pt m) np np 0) ∧ Row w m 66 (termCells 6 (pt k) np ⟨#[]⟩) ∧ Row w k 88 (indexCells nm np np false) ∧ nm.toList.isEmpty = false
  | n, .bin c l r => ∃ a b, Row w n 73 (queryCells np (pt a) (pt b) (opNum c)) ∧ IsQ w a l ∧ IsQ w b r
  | n, .arr q => ∃ m k a, Row w n 73 (queryCells (pt m) np np 0) ∧ Row w m 66 (termCells 9 np (pt k) ⟨#[]⟩) ∧ Row w k 51 #[pt a] ∧ IsQ w a q
def KeepN (w w' : World) : Prop := ∀ (g : Nat) (t : TypeId) (cs : Array Value), Row w g t cs → t ≠ tBld → t ≠ tByte → Row w' g t cs
theorem KeepN.refl (w : World) : KeepN w w := fun _ _ _ h _ _ => h
theorem KeepN.trans {a b c : World} (h : KeepN a b) (k : KeepN b c) : KeepN a c := fun g t cs r h1 h2 => k g t cs (h g t cs r h1 h2) h1 h2
theorem KeepN.below {w w' : World} (hb : Below w.heap.size w w') : KeepN w w' := fun g t cs r _ _ => r.keep hb r.lt
theorem BOut.keep {w w' : World} {B b : Nat} {d : Option Nat} {l l0 : List UInt8} (h : BOut w B b d l w') (h0 : Bld w B b d l0) : KeepN w w' := fun g t cs r h1 h2 => h.row h0 r (Ne.symm h1) (Ne.symm h2)
theorem IsQ.keep {w w' : World} (hk : KeepN w w') : ∀ {n : Nat} {q : Qy}, IsQ w n q → IsQ w' n q
  | n, .num t, h => by
    obtain ⟨m, h1, h2⟩ := h
    exact ⟨m, hk _ _ _ h1 (by decide) (by decide), hk _ _ _ h2 (by decide) (by decide)⟩
  | n, .idx nm, h => by
    obtain ⟨m, k, h1, h2, h3, h4⟩ := h
    exact ⟨m, k, hk _ _ _ h1 (by decide) (by decide), hk _ _ _ h2 (by decide) (by decide), hk _ _ _ h3 (by decide) (by decide), h4⟩
  | n, .bin c l r, h => by
    obtain ⟨a, b, h1, h2, h3⟩ := h
    exact ⟨a, b, hk _ _ _ h1 (by decide) (by decide), IsQ.keep hk h2, IsQ.keep hk h3⟩
  | n, .arr q, h => by
    obtain ⟨m, k, a, h1, h2, h3, h4⟩ := h
    exact ⟨m, k, a, hk _ _ _ h1 (by decide) (by decide), hk _ _ _ h2 (by decide) (by decide), hk _ _ _ h3 (by decide) (by decide), IsQ.keep hk h4⟩
def NoEnd : Ending := .returned (.tuple #[])
/-- A printer's ending: nothing is handed back; the builder holds l now. -/
def POut (w : World) (B b : Nat) (d : Option Nat) (l : List UInt8) (e : Ending) (w' : World) : Prop := e = NoEnd ∧ BOut w B b d l w'
def big : Nat := 140737488355328
theorem POut.mk {w w' : World} {B b : Nat} {d : Option Nat} {l : List UInt8} (h : BOut w B b d l w') : POut w B b d l NoEnd w' := ⟨rfl, h⟩
theorem toList_len (s : ByteArray) : s.data.toList.length = s.size := rfl
set_option maxHeartbeats 1000000 in
theorem suffixName (w : World) (B b : Nat) (d : Option Nat) (acc : List UInt8) (k : Nat) (nm : ByteArray) (s e0 : Value) (sl : Bool) (hr : Row w k 88 (indexCells nm s e0 sl)) (hn : nm.toList.isEmpty = false) (hb : Bld w B b d acc) (hl : acc.length + nm.size ≤ 140737488355328) (hB : B ≤ w.heap.size) :
    Calls Tryd.prog 42 #[pt k, pt b] w (POut w B b d (acc ++ nm.data.toList)) := by
  have k0 := hr.cell 0
  simp only [List.getElem?_toArray, List.getElem?_cons_zero] at k0
  have HB := Lib.hid hb
  have HL := Lib.hid hl
  clear hr hb hl
  go_enter Tryd.func42, Tryd.ntmps42
  go_wp2_with fail
  refine (bstr _ B b d acc nm HB.out HL.out hB).mono ?_
  rintro e w1 ⟨rfl, ho⟩
  have HO := Lib.hid ho
  clear ho k0
  go_wp2_with fail
  go_end0
  exact POut.mk HO.out
theorem last_byte {acc : List UInt8} (h : 0 < acc.length) : ∃ c, (ByteArray.mk acc.toArray)[acc.length - 1]'(by show acc.length - 1 < acc.toArray.size; simp; omega) = c ∧ acc.getLast? = some c := by
  refine ⟨_, rfl, ?_⟩
  rw [List.getLast?_eq_getElem?, List.getElem?_eq_getElem (by omega)]
  rfl
theorem sp_cases {acc : List UInt8} {c : UInt8} (h : acc.getLast? = some c) :
    (sp acc = true ∧ (c = 46 ∨ (((c.toNat : Int) == 46) = false ∧ (48 : Int) ≤ c.toNat ∧ (c.toNat : Int) ≤ 57))) ∨
    (sp acc = false ∧ ((((c.toNat : Int) == 46) = false ∧ (c.toNat : Int) < 48) ∨ (((c.toNat : Int) == 46) = false ∧ (48 : Int) ≤ c.toNat ∧ 57 < (c.toNat : Int)))) := by
  have hs : sp acc = (c == 46 || (48 ≤ c && c ≤ 57)) := by unfold sp; rw [h]
  by_cases h0 : c = 46
  · subst h0
    exact .inl ⟨by rw [hs]; decide, .inl rfl⟩
  · have h1 : ((c.toNat : Int) == 46) = false := by
      rw [beq_eq_false_iff_ne]
      intro e
      apply h0
      apply UInt8.toNat_inj.1
      show c.toNat = 46
      omega
    have h2 : (c == 46) = false := by rw [beq_eq_false_iff_ne]; exact h0
    rw [h2, Bool.false_or] at hs
    by_cases ha : 48 ≤ c.toNat
    · by_cases hb : c.toNat ≤ 57
      · refine .inl ⟨?_, .inr ⟨h1, by omega, by omega⟩⟩
        rw [hs]
        simp only [Bool.and_eq_true, decide_eq_true_eq, UInt8.le_iff_toNat_le]
        exact ⟨ha, hb⟩
      · refine .inr ⟨?_, .inr ⟨h1, by omega, by omega⟩⟩
        rw [hs]
        simp only [Bool.and_eq_false_iff, decide_eq_false_iff_not, UInt8.le_iff_toNat_le]
        exact .inr hb
    · refine .inr ⟨?_, .inl ⟨h1, by omega⟩⟩
      rw [hs]
      simp only [Bool.and_eq_false_iff, decide_eq_false_iff_not, UInt8.le_iff_toNat_le]
      exact .inl ha
theorem bbyteP (w : World) (B b : Nat) (d : Option Nat) (l : List UInt8) (c : UInt8) (n : Int) (hn : n = c.toNat) (h : Bld w B b d l) (hlen : l.length + 1 ≤ 140737488355328) (hBw : B ≤ w.heap.size) :
    Calls Tryd.prog 43 #[.pointer (some ⟨b, 0, none⟩), .int .u8 n] w fun e w' => e = .returned .nilIface ∧ ∃ d', Hid (Bld w' B b d' (l ++ [c])) ∧ Hid (d' = d ∨ ∃ g, d' = some g ∧ w.heap.size ≤ g) ∧ Hid (Touch (fun k => k = b ∨ d = some k) w w') ∧ Hid (KeepN w w') ∧ w.heap.size ≤ w'.heap.size := by
  refine (bbyte w B b d l c n hn h hlen hBw).mono ?_
  rintro e w' ⟨he, ho⟩
  have hk := ho.keep h
  obtain ⟨d', h1, h2, h3⟩ := ho
  exact ⟨he, d', Lib.hid h1, Lib.hid h2, Lib.hid h3, Lib.hid hk, h3.size⟩
theorem bstrP (w : World) (B b : Nat) (d : Option Nat) (l : List UInt8) (s : ByteArray) (h : Bld w B b d l) (hlen : l.length + s.size ≤ 140737488355328) (hBw : B ≤ w.heap.size) :
    Calls Tryd.prog 23 #[.pointer (some ⟨b, 0, none⟩), .string s] w fun e w' => e = .returned (.tuple #[.int .i64 s.size, .nilIface]) ∧ ∃ d', Hid (Bld w' B b d' (l ++ s.data.toList)) ∧ Hid (d' = d ∨ ∃ g, d' = some g ∧ w.heap.size ≤ g) ∧ Hid (Touch (fun k => k = b ∨ d = some k) w w') ∧ Hid (KeepN w w') ∧ w.heap.size ≤ w'.heap.size := by
  refine (bstr w B b d l s h hlen hBw).mono ?_
  rintro e w' ⟨he, ho⟩
  have hk := ho.keep h
  obtain ⟨d', h1, h2, h3⟩ := ho
  exact ⟨he, d', Lib.hid h1, Lib.hid h2, Lib.hid h3, Lib.hid hk, h3.size⟩
theorem POut.parts {w w' : World} {B b : Nat} {d : Option Nat} {l l0 : List UInt8} (h0 : Bld w B b d l0) (ho : BOut w B b d l w') : ∃ d', Hid (Bld w' B b d' l) ∧ Hid (d' = d ∨ ∃ g, d' = some g ∧ w.heap.size ≤ g) ∧ Hid (Touch (fun k => k = b ∨ d = some k) w w') ∧ Hid (KeepN w w') ∧ w.heap.size ≤ w'.heap.size := by
  have hk := ho.keep h0
  obtain ⟨d', h1, h2, h3⟩ := ho
  exact ⟨d', Lib.hid h1, Lib.hid h2, Lib.hid h3, Lib.hid hk, h3.size⟩
set_option maxHeartbeats 2000000 in
theorem idxTo (w : World) (B b : Nat) (d : Option Nat) (acc : List UInt8) (k : Nat) (nm : ByteArray) (s e0 : Value) (sl : Bool) (hr : Row w k 88 (indexCells nm s e0 sl)) (hn : nm.toList.isEmpty = false) (hb : Bld w B b d acc) (hl : (prIdx nm acc).length ≤ 140737488355328) (hB : B ≤ w.heap.size) :
    Calls Tryd.prog 41 #[pt k, pt b] w (POut w B b d (prIdx nm acc)) := by
  have HB := Lib.hid hb
  have HL := Lib.hid hl
  have HR := Lib.hid hr
  clear hr hb
  by_cases h0 : acc = []
  · subst h0
    have HP := Lib.hid (show prIdx nm [] = [] ++ [46] ++ nm.data.toList from rfl)
    have hl2 : nm.size + 1 ≤ 140737488355328 := by
      have := hl
      rw [HP.out] at this
      simp only [List.length_append, List.length_singleton, List.length_nil, toList_len] at this
      omega
    clear hl
    go_enter Tryd.func41, Tryd.ntmps41
    go_wp2_with fail
    refine (blen _ B b d [] HB.out).mono ?_
    rintro e w' ⟨rfl, rfl⟩
    go_wp2_with fail
    refine (bbyte _ B b d [] 46 46 rfl HB.out (by simp) hB).mono ?_
    rintro e w1 ⟨rfl, ho⟩
    have hsz := ho.size
    have HK := Lib.hid (ho.keep HB.out)
    obtain ⟨d1, hb1, hd1, ht1⟩ := ho
    have HB1 := Lib.hid hb1
    have HD1 := Lib.hid hd1
    have HT1 := Lib.hid ht1
    clear hb1 hd1 ht1
    go_wp2_with fail
    refine (suffixName _ B b d1 _ k nm s e0 sl (HK.out _ _ _ HR.out (by decide) (by decide)) hn HB1.out (by simp; omega) (by omega)).mono ?_
    rintro e w2 ⟨rfl, ho⟩
    have HO := Lib.hid (BOut.then HD1.out HT1.out ho)
    clear ho
    go_wp2_with fail
    go_end0
    refine POut.mk ?_
    rw [HP.out]
    exact HO.out
  · have hpos : 0 < acc.length := by
      rcases acc with _ | ⟨x, r⟩
      · exact absurd rfl h0
      · simp
    obtain ⟨c, hc, hlast⟩ := last_byte hpos
    rcases sp_cases hlast with ⟨hsp, hcase⟩ | ⟨hsp, hcase⟩
    · have HP := Lib.hid (show prIdx nm acc = acc ++ [32] ++ [46] ++ nm.data.toList by unfold prIdx; rw [if_pos hsp])
      have hl2 : acc.length + nm.size + 2 ≤ 140737488355328 := by
        have := hl
        rw [HP.out] at this
        simp only [List.length_append, List.length_singleton, toList_len] at this
        omega
      clear hlast hsp hl
      rcases hcase with rfl | ⟨q1, q2, q3⟩
      all_goals
        go_enter Tryd.func41, Tryd.ntmps41
        go_wp2_with fail
        refine (blen _ B b d acc HB.out).mono ?_
        rintro e w' ⟨rfl, rfl⟩
        go_wp2_with fail
        refine (bstring _ B b d acc HB.out).mono ?_
        rintro e w1 ⟨rfl, hs1⟩
        obtain ⟨d0, hb0, hd0, ht0, hk0, hz0⟩ := POut.parts HB.out hs1.out
        clear hs1
        go_wp2_with fail
        refine (bbyteP _ B b d0 acc 32 32 rfl hb0.out (by omega) (by omega)).mono ?_
        rintro e w2 ⟨rfl, d1, hb1, hd1, ht1, hk1, hz1⟩
        go_wp2_with fail
        refine (bbyteP _ B b d1 _ 46 46 rfl hb1.out (by simp; omega) (by omega)).mono ?_
        rintro e w3 ⟨rfl, d2, hb2, hd2, ht2, hk2, hz2⟩
        go_wp2_with fail
        refine (suffixName _ B b d2 _ k nm s e0 sl (hk2.out _ _ _ (hk1.out _ _ _ (hk0.out _ _ _ HR.out (by decide) (by decide)) (by decide) (by decide)) (by decide) (by decide)) hn hb2.out (by simp; omega) (by omega)).mono ?_
        rintro e w4 ⟨rfl, ho⟩
        have HO := Lib.hid (BOut.then hd0.out ht0.out (BOut.then hd1.out ht1.out (BOut.then hd2.out ht2.out ho)))
        clear ho
        go_wp2_with fail
        go_end0
        refine POut.mk ?_
        rw [HP.out]
        exact HO.out
    · have HP := Lib.hid (show prIdx nm acc = acc ++ [46] ++ nm.data.toList by unfold prIdx; rw [if_neg (by rw [hsp]; decide)])
      have hl2 : acc.length + nm.size + 1 ≤ 140737488355328 := by
        have := hl
        rw [HP.out] at this
        simp only [List.length_append, List.length_singleton, toList_len] at this
        omega
      clear hlast hsp hl
      rcases hcase with ⟨q1, q2⟩ | ⟨q1, q2, q3⟩
      all_goals
        go_enter Tryd.func41, Tryd.ntmps41
        go_wp2_with fail
        refine (blen _ B b d acc HB.out).mono ?_
        rintro e w' ⟨rfl, rfl⟩
        go_wp2_with fail
        refine (bstring _ B b d acc HB.out).mono ?_
        rintro e w1 ⟨rfl, hs1⟩
        obtain ⟨d0, hb0, hd0, ht0, hk0, hz0⟩ := POut.parts HB.out hs1.out
        clear hs1
        go_wp2_with fail
        refine (bbyteP _ B b d0 _ 46 46 rfl hb0.out (by omega) (by omega)).mono ?_
        rintro e w3 ⟨rfl, d2, hb2, hd2, ht2, hk2, hz2⟩
        go_wp2_with fail
        refine (suffixName _ B b d2 _ k nm s e0 sl (hk2.out _ _ _ (hk0.out _ _ _ HR.out (by decide) (by decide)) (by decide) (by decide)) hn hb2.out (by simp; omega) (by omega)).mono ?_
        rintro e w4 ⟨rfl, ho⟩
        have HO := Lib.hid (BOut.then hd0.out ht0.out (BOut.then hd2.out ht2.out ho))
        clear ho
        go_wp2_with fail
        go_end0
        refine POut.mk ?_
        rw [HP.out]
        exact HO.out
end Go.Proofs.YtebcjlgeppebgaaDoor

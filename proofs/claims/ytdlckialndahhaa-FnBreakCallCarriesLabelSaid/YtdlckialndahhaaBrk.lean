/-
  Contract of the seat n001_78: compileBreak.
-/
import Derived.Test.YtdlckialndahhaaApp
namespace Go.Proofs.Ytdlckialndahhaa
set_option linter.unusedVariables false
set_option linter.unusedSimpArgs false
open Go.ChangeShapes Go.WideShapes Go.ChangeAt Go.RowKit M
theorem KeepC.below {w w' : World} (hb : Below w.heap.size w w') : KeepC w w' := fun g t cs r _ _ => r.keep hb r.lt
theorem KeepC.trans {a b c : World} (h : KeepC a b) (k : KeepC b c) : KeepC a c := fun g t cs r h1 h2 => k g t cs (h g t cs r h1 h2) h1 h2
theorem Cod.below {w w' : World} {B c : Nat} {qs : List Nat} (h : Cod w B c qs) (hb : Below w.heap.size w w') : Cod w' B c qs := by
  obtain ⟨cc, A, cap, hr, h5, hBc, ho⟩ := h
  exact ⟨cc, A, cap, hr.keep hb hr.lt, h5, hBc, own_touch ho (Touch.of_below hb (fun _ => False)) (fun _ _ h => h)⟩
def lab2 (lb : ByteArray) : ByteArray := { data := #[36, 37] } ++ lb.extract 1 lb.size
theorem appendNew (w : World) (B c s p q : Nat) (ns : List ByteArray) (qs : List Nat) (v u : Value) (h : Cmp w B c s p ns) (hC : Cod w B c qs) (hn : qs.length ≤ 1048576) (hB : B ≤ w.heap.size) (hq : w.heap.size = q) :
    Calls Try.prog 31 #[.pointer (some ⟨c, 0, none⟩), .pointer (some ⟨q, 0, none⟩)] (w.alloc (.cells #[v, u] 88)) fun e w' => e = .returned (.tuple #[]) ∧ Cmp w' B c s p ns ∧ Cod w' B c (qs ++ [q]) ∧ Row w' q 88 #[v, u] ∧ Below B w w' ∧ KeepC w w' := by
  have hb : Below w.heap.size w (w.alloc (.cells #[v, u] 88)) := (Below.refl _ _).alloc (Nat.le_refl _) _
  refine (appendCode _ B c s p q ns qs (h.below hb) (hC.below hb) hn (by simp; omega)).mono ?_
  rintro e w' ⟨rfl, h1, h2, h3, h4⟩
  exact ⟨rfl, h1, h2, h4 _ _ _ (Row.made' _ _ hq) (by decide) (by decide), (hb.mono hB).trans h3, (KeepC.below hb).trans h4⟩
/-- What a break lays: three codes. -/
def Brk (w : World) (lb : ByteArray) (k a b d : Nat) : Prop :=
  Row w a 88 #[.nilIface, .int .i64 2] ∧ Row w b 88 #[.iface 28 (.agg #[.int .i64 1, .int .i64 k]), .int .i64 5] ∧
  ∃ bx, Row w d 88 #[.iface 90 (.agg #[.iface 92 (.func (.func 33) #[] #[.pointer (some ⟨bx, 0, none⟩)]), .iface 3 (.int .i64 0), .iface 9 (.string { data := #[95, 98, 114, 101, 97, 107] })]), .int .i64 19] ∧ Row w bx 9 #[.string lb]
theorem Brk.keep {w w' : World} {lb : ByteArray} {k a b d : Nat} (h : Brk w lb k a b d) (hk : KeepC w w') : Brk w' lb k a b d := by
  obtain ⟨h1, h2, bx, h3, h4⟩ := h
  exact ⟨hk _ _ _ h1 (by decide) (by decide), hk _ _ _ h2 (by decide) (by decide), bx, hk _ _ _ h3 (by decide) (by decide), hk _ _ _ h4 (by decide) (by decide)⟩
def BrkOut (w : World) (B c s p : Nat) (ns : List ByteArray) (qs : List Nat) (lb : ByteArray) (e : Ending) (w' : World) : Prop :=
  ((∃ k a b d : Nat, ns[k]? = some (lab2 lb) ∧ e = .returned .nilIface ∧ Cod w' B c (qs ++ [a, b, d]) ∧ Brk w' lb k a b d) ∨
    (lab2 lb ∉ ns ∧ ∃ g : Nat, e = .returned (.iface 31 (.pointer (some ⟨g, 0, none⟩))) ∧ Row w' g 95 #[.string lb, .nilIface] ∧ Cod w' B c qs)) ∧ Cmp w' B c s p ns ∧ Below B w w' ∧ KeepC w w'
set_option maxHeartbeats 1000000 in
theorem funcBrk (w : World) (lb : ByteArray) : Calls Try.prog 32 #[.string lb] w fun e w' => e = .returned (.func (.func 33) #[] #[.pointer (some ⟨w.heap.size, 0, none⟩)]) ∧ w' = w.alloc (.cells #[.string lb] 9) := by
  go_enter Try.func32, Try.ntmps32
  go_wp2_with fail
  go_ret
  exact ⟨rfl, rfl⟩
set_option maxRecDepth 100000 in
set_option maxHeartbeats 2000000 in
theorem compBreak (w : World) (B c s p : Nat) (ns : List ByteArray) (qs : List Nat) (lb : ByteArray) (h : Cmp w B c s p ns) (hC : Cod w B c qs) (hn : ns.length ≤ 1048576) (hq : qs.length ≤ 1048000) (hB : B ≤ w.heap.size) (hl0 : 0 < lb.size) (hl : lb.size ≤ 1048576) :
    Calls Try.prog 26 #[.pointer (some ⟨c, 0, none⟩), .string lb] w (BrkOut w B c s p ns qs lb) := by
  have H := Lib.hid h
  have HC := Lib.hid hC
  clear h hC
  go_enter Try.func26, Try.ntmps26
  go_wp2_with fail
  refine (look _ B c s p ns _ H.out hn).mono ?_
  rintro e w1 ⟨hor, hb1⟩
  have hs1 := hb1.size
  have H1 := Lib.hid (H.out.below hb1)
  have HC1 := Lib.hid (HC.out.below hb1)
  have hb1' := Lib.hid hb1
  rcases hor with ⟨k, hk, rfl⟩ | ⟨hno, v, rfl⟩
  · have HK := Lib.hid hk
    clear hk hb1
    go_wp2_with fail
    have hb2 : Below w1.heap.size w1 (w1.alloc (.cells #[.int .i64 1, .int .i64 k] 28)) := (Below.refl _ _).alloc (Nat.le_refl _) _
    have HRV := Lib.hid (Row.made w1 28 #[.int .i64 1, .int .i64 k])
    refine (appendNew _ B c s p (w1.heap.size + 1) ns qs _ _ (H1.out.below hb2) (HC1.out.below hb2) (by omega) (by simp; omega) (by simp)).mono ?_
    rintro e w3 ⟨rfl, h3, hc3, ra, hb3, hk3⟩
    have rv := hk3 _ _ _ HRV.out (by decide) (by decide)
    have v0 := rv.cell 0
    have v1 := rv.cell 1
    simp only [List.getElem?_toArray, List.getElem?_cons_succ, List.getElem?_cons_zero] at v0 v1
    have hzl := rv.lt
    have H3 := Lib.hid h3
    have HC3 := Lib.hid hc3
    have HRA := Lib.hid ra
    have hs3 := hb3.size
    have HB3 := Lib.hid (((hb2.mono (by omega : B ≤ _)).trans hb3))
    have HK3 := Lib.hid ((KeepC.below hb2).trans hk3)
    clear h3 hc3 hk3 hb3 rv ra HRV hb2
    go_wp2_with fail
    refine (appendNew _ B c s p w3.heap.size ns (qs ++ [w1.heap.size + 1]) _ _ H3.out HC3.out (by simp; omega) (by simp at hs3; omega) rfl).mono ?_
    rintro e w4 ⟨rfl, h4, hc4, rb, hb4, hk4⟩
    have H4 := Lib.hid h4
    have HC4 := Lib.hid hc4
    have HRA4 := Lib.hid (hk4 _ _ _ HRA.out (by decide) (by decide))
    have HRB := Lib.hid rb
    have hs4 := hb4.size
    have HB4 := Lib.hid (HB3.out.trans hb4)
    have HK4 := Lib.hid (HK3.out.trans hk4)
    clear h4 hc4 rb hb4 hk4 HRA HB3 HK3 v0 v1 H3 HC3
    go_wp2_with fail
    refine (funcBrk _ _).mono ?_
    rintro e w5 ⟨rfl, rfl⟩
    go_wp2_with fail
    have hb5 : Below w4.heap.size w4 (w4.alloc (.cells #[.string lb] 9)) := (Below.refl _ _).alloc (Nat.le_refl _) _
    refine (appendNew _ B c s p (w4.heap.size + 1) ns (qs ++ [w1.heap.size + 1] ++ [w3.heap.size]) _ _ (H4.out.below hb5) (HC4.out.below hb5) (by simp; omega) (by simp at hs3 ⊢; omega) (by simp)).mono ?_
    rintro e w6 ⟨rfl, h6, hc6, rd, hb6, hk6⟩
    have hk46 := (KeepC.below hb5).trans hk6
    have hrx := hk6 _ _ _ (Row.made w4 9 #[.string lb]) (by decide) (by decide)
    have HF := Lib.hid (show BrkOut w B c s p ns qs lb (.returned .nilIface) w6 from ⟨.inl ⟨k, _, _, _, HK.out, rfl, by simpa using hc6, hk46 _ _ _ HRA4.out (by decide) (by decide), hk46 _ _ _ HRB.out (by decide) (by decide), _, rd, hrx⟩, h6, (hb1'.out.mono hB).trans (HB4.out.trans ((hb5.mono (by simp at hs3; omega)).trans hb6)), (KeepC.below hb1'.out).trans (HK4.out.trans hk46)⟩)
    clear h6 hc6 rd hb6 hk6 hk46 hrx hb5
    go_wp2_with fail
    go_ret
    exact HF.out
  · have HNO := Lib.hid hno
    clear hno hb1
    go_wp2_with fail
    go_ret
    have hb2 : Below w1.heap.size w1 ((w1.alloc (.cells #[.int .i64 0, .int .i64 0] 28)).alloc (.cells #[.string lb, .nilIface] 95)) := ((Below.refl _ _).alloc (Nat.le_refl _) _).alloc (by simp) _
    exact ⟨.inr ⟨HNO.out, _, rfl, Row.made' _ _ (by simp), HC1.out.below hb2⟩, H1.out.below hb2, (hb1'.out.mono hB).trans (hb2.mono (by omega)), (KeepC.below hb1'.out).trans (KeepC.below hb2)⟩
end Go.Proofs.Ytdlckialndahhaa

/-
  Contracts of the seat n001_78: the readers of codes.
-/
import Derived.Test.YtdlckialndahhaaBrk
namespace Go.Proofs.Ytdlckialndahhaa
set_option linter.unusedVariables false
set_option linter.unusedSimpArgs false
open Go.ChangeShapes Go.WideShapes Go.ChangeAt Go.RowKit M
@[go_sem] theorem as31 (v : Value) (w : World) : (Instr.typeAssert (.iface 31 v) 84 31 true).run Try.prog w = .ok (.tuple #[v, .bool true]) w := by kernel_rfl
@[go_sem] theorem as28 (v : Value) (w : World) : (Instr.typeAssert (.iface 28 v) 20 28 true).run Try.prog w = .ok (.tuple #[v, .bool true]) w := by kernel_rfl
@[go_sem] theorem as90 (v : Value) (w : World) : (Instr.typeAssert (.iface 90 v) 20 90 true).run Try.prog w = .ok (.tuple #[v, .bool true]) w := by kernel_rfl
@[go_sem] theorem as3 (v : Value) (w : World) : (Instr.typeAssert (.iface 3 v) 20 3 true).run Try.prog w = .ok (.tuple #[v, .bool true]) w := by kernel_rfl
@[go_sem] theorem as9 (v : Value) (w : World) : (Instr.typeAssert (.iface 9 v) 20 9 true).run Try.prog w = .ok (.tuple #[v, .bool true]) w := by kernel_rfl
@[go_sem] theorem as92 (v : Value) (w : World) : (Instr.typeAssert (.iface 92 v) 20 92 true).run Try.prog w = .ok (.tuple #[v, .bool true]) w := by kernel_rfl
@[go_sem] theorem as2031 (v : Value) (w : World) : (Instr.typeAssert (.iface 31 v) 20 31 true).run Try.prog w = .ok (.tuple #[v, .bool true]) w := by kernel_rfl
theorem Cod.get {w : World} {B c : Nat} {qs : List Nat} (h : Cod w B c qs) {i q : Nat} (hi : qs[i]? = some q) :
    ∃ g cap, w.cell? ⟨c, 5, none⟩ = some (.slice (some ⟨g, 0, none⟩) qs.length cap) ∧ w.cell? ⟨g, i, none⟩ = some (.pointer (some ⟨q, 0, none⟩)) ∧ c < w.heap.size ∧ g < w.heap.size ∧ i < qs.length := by
  obtain ⟨cc, A, cap, hr, h5, hBc, ho⟩ := h
  have hlt := (List.getElem?_eq_some_iff.1 hi).1
  obtain ⟨g, cap', hv, hgB, hgl⟩ := ho.form (by omega)
  injection hv with hA _ hcp
  subst hA hcp
  refine ⟨g, cap, (hr.cell 5).trans h5, ?_, hr.lt, hgl, hlt⟩
  have := ho.cells (g := g) rfl i (.pointer (some ⟨q, 0, none⟩)) (by rw [List.getElem?_map, hi]; rfl)
  simpa [Addr.add_lit] using this
theorem codesLen (w : World) (B c n : Nat) (qs : List Nat) (h : Cod w B c qs) (hn : qs.length = n) : Calls Try.prog 10 #[.pointer (some ⟨c, 0, none⟩)] w fun e w' => e = .returned (.int .i64 n) ∧ w = w' := by
  subst hn
  obtain ⟨cc, A, cap, hr, h5, hBc, ho⟩ := h
  have k5 := (hr.cell 5).trans h5
  have lc := hr.lt
  clear hr h5 ho
  go_enter Try.func10, Try.ntmps10
  go_wp2_with fail
  go_ret
  exact ⟨rfl, rfl⟩
set_option maxHeartbeats 1000000 in
theorem codeOp (w : World) (B c i q : Nat) (op : Int) (v : Value) (qs : List Nat) (h : Cod w B c qs) (hn : qs.length ≤ 1048576) (hi : qs[i]? = some q) (hq : Row w q 88 #[v, .int .i64 op]) : Calls Try.prog 27 #[.pointer (some ⟨c, 0, none⟩), .int .i64 i] w fun e w' => e = .returned (.int .i64 op) ∧ w = w' := by
  obtain ⟨g, cap, k5, ki, lc, lg, li⟩ := h.get hi
  have q0 := hq.cell 0
  have q1 := hq.cell 1
  simp only [List.getElem?_toArray, List.getElem?_cons_succ, List.getElem?_cons_zero] at q0 q1
  have lq := hq.lt
  clear h hi hq
  go_enter Try.func27, Try.ntmps27
  go_wp2_with fail
  go_ret
  exact ⟨rfl, rfl⟩
set_option maxHeartbeats 1000000 in
theorem opAt (w : World) (B c i q : Nat) (op op' : Int) (v : Value) (qs : List Nat) (h : Cod w B c qs) (hn : qs.length ≤ 1048576) (hi : qs[i]? = some q) (hq : Row w q 88 #[v, .int .i64 op]) (ho : op = op') : Calls Try.prog 22 #[.pointer (some ⟨c, 0, none⟩), .int .i64 i, .int .i64 op'] w fun e w' => e = .returned (.bool true) ∧ w = w' := by
  subst ho
  have li := (List.getElem?_eq_some_iff.1 hi).1
  have H := Lib.hid h
  have HI := Lib.hid hi
  have HQ := Lib.hid hq
  clear h hi hq
  go_enter Try.func22, Try.ntmps22
  go_wp2_with fail
  refine (codesLen _ B c _ qs H.out rfl).mono ?_
  rintro e w' ⟨rfl, rfl⟩
  go_wp2_with fail
  refine (codeOp _ B c i q op v qs H.out hn HI.out HQ.out).mono ?_
  rintro e w' ⟨rfl, rfl⟩
  go_wp2_with fail
  go_ret
  exact ⟨by simp, rfl⟩
set_option maxHeartbeats 1000000 in
theorem codeIndex (w : World) (B c i q : Nat) (x y : Int) (u : Value) (qs : List Nat) (h : Cod w B c qs) (hn : qs.length ≤ 1048576) (hi : qs[i]? = some q) (hq : Row w q 88 #[.iface 28 (.agg #[.int .i64 x, .int .i64 y]), u]) : Calls Try.prog 12 #[.pointer (some ⟨c, 0, none⟩), .int .i64 i] w fun e w' => e = .returned (.tuple #[.agg #[.int .i64 x, .int .i64 y], .bool true]) ∧ Below w.heap.size w w' := by
  obtain ⟨g, cap, k5, ki, lc, lg, li⟩ := h.get hi
  have q0 := hq.cell 0
  have q1 := hq.cell 1
  simp only [List.getElem?_toArray, List.getElem?_cons_succ, List.getElem?_cons_zero] at q0 q1
  have lq := hq.lt
  clear h hi hq
  go_enter Try.func12, Try.ntmps12
  go_wp2_with fail
  have hr := Row.made' 28 #[.int .i64 x, .int .i64 y] (show (w.alloc (.cells #[.int .i64 x, .int .i64 y] 28)).heap.size = w.heap.size + 1 by simp)
  have hr2 := (Row.made w 28 #[.int .i64 x, .int .i64 y]).alloc (.cells #[.int .i64 x, .int .i64 y] 28)
  have e0 := hr.cell 0
  have e1 := hr.cell 1
  have e2 := hr2.cell 0
  have e3 := hr2.cell 1
  simp only [List.getElem?_toArray, List.getElem?_cons_succ, List.getElem?_cons_zero] at e0 e1 e2 e3
  exact bodyPost_ret (v := .tuple #[.agg #[.int .i64 x, .int .i64 y], .bool true]) (by simp [results, Try.results12, go_sem, e0, e1, e2, e3]) rfl ⟨rfl, ((Below.refl _ _).alloc (Nat.le_refl _) _).alloc (by simp) _⟩
set_option maxHeartbeats 1000000 in
theorem idxAt (w : World) (B c i q : Nat) (x y op : Int) (qs : List Nat) (h : Cod w B c qs) (hn : qs.length ≤ 1048576) (hi : qs[i]? = some q) (hq : Row w q 88 #[.iface 28 (.agg #[.int .i64 x, .int .i64 y]), .int .i64 op]) : Calls Try.prog 16 #[.pointer (some ⟨c, 0, none⟩), .int .i64 i, .int .i64 op, .int .i64 x, .int .i64 y] w fun e w' => e = .returned (.bool true) ∧ Below w.heap.size w w' := by
  have H := Lib.hid h
  have HI := Lib.hid hi
  have HQ := Lib.hid hq
  clear h hi hq
  go_enter Try.func16, Try.ntmps16
  go_wp2_with fail
  refine (opAt _ B c i q op op _ qs H.out hn HI.out HQ.out rfl).mono ?_
  rintro e w' ⟨rfl, rfl⟩
  go_wp2_with fail
  refine (codeIndex _ B c i q x y _ qs H.out hn HI.out HQ.out).mono ?_
  rintro e w' ⟨rfl, hb⟩
  go_wp2_with fail
  go_ret
  exact ⟨by simp, hb.trans ((Below.refl _ _).alloc hb.size _)⟩
def ZBrkOut (w : World) (B c s p : Nat) (ns : List ByteArray) (qs : List Nat) (lb : ByteArray) (e : Ending) (w' : World) : Prop :=
  ((∃ k a b d : Nat, ns[k]? = some (lab2 lb) ∧ e = .returned (.tuple #[.pointer none, .bool true]) ∧ Cod w' B c (qs ++ [a, b, d]) ∧ Brk w' lb k a b d) ∨
    (lab2 lb ∉ ns ∧ ∃ g : Nat, e = .returned (.tuple #[.pointer (some ⟨g, 0, none⟩), .bool false]) ∧ Row w' g 95 #[.string lb, .nilIface] ∧ Cod w' B c qs)) ∧ Cmp w' B c s p ns ∧ Below B w w' ∧ KeepC w w'
set_option maxHeartbeats 1000000 in
theorem zcompBreak (w : World) (B c s p : Nat) (ns : List ByteArray) (qs : List Nat) (lb : ByteArray) (h : Cmp w B c s p ns) (hC : Cod w B c qs) (hn : ns.length ≤ 1048576) (hq : qs.length ≤ 1048000) (hB : B ≤ w.heap.size) (hl0 : 0 < lb.size) (hl : lb.size ≤ 1048576) :
    Calls Try.prog 11 #[.pointer (some ⟨c, 0, none⟩), .string lb] w (ZBrkOut w B c s p ns qs lb) := by
  have H := Lib.hid h
  have HC := Lib.hid hC
  clear h hC
  go_enter Try.func11, Try.ntmps11
  go_wp2_with fail
  refine (compBreak _ B c s p ns qs lb H.out HC.out hn hq hB hl0 hl).mono ?_
  rintro e w1 ⟨⟨k, a, b, d, hk, rfl, hc1, hbr⟩ | ⟨hno, g, rfl, hr, hc1⟩, h1, hb1, hk1⟩
  · have HF := Lib.hid (show ZBrkOut w B c s p ns qs lb (.returned (.tuple #[.pointer none, .bool true])) w1 from ⟨.inl ⟨k, a, b, d, hk, rfl, hc1, hbr⟩, h1, hb1, hk1⟩)
    clear hk hc1 hbr h1 hb1 hk1
    go_wp2_with fail
    exact bodyPost_ret (v := .tuple #[.pointer none, .bool true]) (by simp [results, Try.results11, go_sem]) rfl HF.out
  · have HF := Lib.hid (show ZBrkOut w B c s p ns qs lb (.returned (.tuple #[.pointer (some ⟨g, 0, none⟩), .bool false])) w1 from ⟨.inr ⟨hno, g, rfl, hr, hc1⟩, h1, hb1, hk1⟩)
    clear hno hr hc1 h1 hb1 hk1
    go_wp2_with fail
    exact bodyPost_ret (v := .tuple #[.pointer (some ⟨g, 0, none⟩), .bool false]) (by simp [results, Try.results11, go_sem]) rfl HF.out
theorem scopeId (w : World) (B c s p : Nat) (ns : List ByteArray) (h : Cmp w B c s p ns) : Calls Try.prog 18 #[.pointer (some ⟨c, 0, none⟩)] w fun e w' => e = .returned (.int .i64 1) ∧ ∃ n, w' = w.drewN n := by
  obtain ⟨cc, A, cap, qs, fv, hc, hc8, hs, hp, hBp, hql, ho, hq⟩ := h
  have k8 := (hc.cell 8).trans hc8
  have s0 := hs.cell 0
  have p2 := hp.cell 2
  simp only [List.getElem?_toArray, List.getElem?_cons_succ, List.getElem?_cons_zero] at s0 p2
  have lc := hc.lt
  have ls := hs.lt
  have lp := hp.lt
  unfold ptr at *
  clear hc hc8 hs hp ho hq hql
  go_enter Try.func18, Try.ntmps18
  go_wp2_with fail
  go_quiet (fail)
  go_wp2_with fail
  go_ret
  exact ⟨rfl, _, rfl⟩
theorem varCount (w : World) (B c s p n : Nat) (ns : List ByteArray) (h : Cmp w B c s p ns) (hn : ns.length = n) : Calls Try.prog 20 #[.pointer (some ⟨c, 0, none⟩)] w fun e w' => e = .returned (.int .i64 n) ∧ ∃ n, w' = w.drewN n := by
  subst hn
  obtain ⟨cc, A, cap, qs, fv, hc, hc8, hs, hp, hBp, hql, ho, hq⟩ := h
  have k8 := (hc.cell 8).trans hc8
  have s0 := hs.cell 0
  have p4 := hp.cell 4
  simp only [List.getElem?_toArray, List.getElem?_cons_succ, List.getElem?_cons_zero] at s0 p4
  have lc := hc.lt
  have ls := hs.lt
  have lp := hp.lt
  unfold ptr at *
  clear hc hc8 hs hp ho hq hql
  go_enter Try.func20, Try.ntmps20
  go_wp2_with fail
  go_quiet (fail)
  go_wp2_with fail
  go_ret
  exact ⟨rfl, _, rfl⟩
theorem brkName (w : World) (g : Nat) (lb : ByteArray) (v : Value) (h : Row w g 95 #[.string lb, v]) : Calls Try.prog 14 #[.pointer (some ⟨g, 0, none⟩)] w fun e w' => e = .returned (.string lb) ∧ w = w' := by
  have q0 := h.cell 0
  have lg := h.lt
  simp only [List.getElem?_toArray, List.getElem?_cons_succ, List.getElem?_cons_zero] at q0
  clear h
  go_enter Try.func14, Try.ntmps14
  go_wp2_with fail
  go_ret
  exact ⟨rfl, rfl⟩
theorem brkNil (w : World) (g : Nat) (lb : ByteArray) (h : Row w g 95 #[.string lb, .nilIface]) : Calls Try.prog 21 #[.pointer (some ⟨g, 0, none⟩)] w fun e w' => e = .returned (.bool true) ∧ w = w' := by
  have q1 := h.cell 1
  have lg := h.lt
  simp only [List.getElem?_toArray, List.getElem?_cons_succ, List.getElem?_cons_zero] at q1
  clear h
  go_enter Try.func21, Try.ntmps21
  go_wp2_with fail
  go_ret
  exact ⟨rfl, rfl⟩
theorem brkInt (w : World) (g : Nat) (lb : ByteArray) (x : Int) (h : Row w g 95 #[.string lb, .iface 3 (.int .i64 x)]) : Calls Try.prog 15 #[.pointer (some ⟨g, 0, none⟩)] w fun e w' => e = .returned (.tuple #[.int .i64 x, .bool true]) ∧ w = w' := by
  have q1 := h.cell 1
  have lg := h.lt
  simp only [List.getElem?_toArray, List.getElem?_cons_succ, List.getElem?_cons_zero] at q1
  clear h
  go_enter Try.func15, Try.ntmps15
  go_wp2_with fail
  exact bodyPost_ret (v := .tuple #[.int .i64 x, .bool true]) (by simp [results, Try.results15, go_sem]) rfl ⟨rfl, rfl⟩
set_option maxHeartbeats 1000000 in
theorem codeCall (w : World) (B c i q : Nat) (fv u : Value) (nm : ByteArray) (n : Int) (qs : List Nat) (h : Cod w B c qs) (hn : qs.length ≤ 1048576) (hi : qs[i]? = some q) (hq : Row w q 88 #[  .iface 90 (.agg #[.iface 92 fv, .iface 3 (.int .i64 n), .iface 9 (.string nm)]), u]) : Calls Try.prog 23 #[.pointer (some ⟨c, 0, none⟩), .int .i64 i] w fun e w' => e = .returned (.tuple #[.int .i64 n, .string nm, .bool true]) ∧ Below w.heap.size w w' := by
  obtain ⟨g, cap, k5, ki, lc, lg, li⟩ := h.get hi
  have q0 := hq.cell 0
  have q1 := hq.cell 1
  simp only [List.getElem?_toArray, List.getElem?_cons_succ, List.getElem?_cons_zero] at q0 q1
  have lq := hq.lt
  clear h hi hq
  go_enter Try.func23, Try.ntmps23
  go_wp2_with fail
  have hb : Below w.heap.size w (w.alloc (.cells #[.iface 92 fv, .iface 3 (.int .i64 n), .iface 9 (.string nm)] 90)) := (Below.refl _ _).alloc (Nat.le_refl _) _
  exact bodyPost_ret (v := .tuple #[.int .i64 n, .string nm, .bool true]) (by simp [results, Try.results23, go_sem]) rfl ⟨rfl, by first | exact hb | simpa using hb⟩
theorem funcIn (w : World) (bx : Nat) (x : Int) (lb : ByteArray) (hb : Row w bx 9 #[.string lb]) : Calls Try.prog 33 #[.iface 3 (.int .i64 x), .slice none 0 0, .pointer (some ⟨bx, 0, none⟩)] w fun e w' => e = .returned (.iface 31 (.pointer (some ⟨w.heap.size, 0, none⟩))) ∧ w' = w.alloc (.cells #[.string lb, .iface 3 (.int .i64 x)] 95) := by
  have b0 := hb.cell 0
  simp only [List.getElem?_toArray, List.getElem?_cons_succ, List.getElem?_cons_zero] at b0
  have lbx := hb.lt
  clear hb
  go_enter Try.func33, Try.ntmps33
  go_wp2_with fail
  go_ret
  exact ⟨rfl, rfl⟩
set_option maxHeartbeats 1000000 in
theorem runBrk (w : World) (B c i q bx : Nat) (u : Value) (lb nm : ByteArray) (n x : Int) (qs : List Nat) (h : Cod w B c qs) (hn : qs.length ≤ 1048576) (hi : qs[i]? = some q) (hq : Row w q 88 #[.iface 90 (.agg #[.iface 92 (.func (.func 33) #[] #[.pointer (some ⟨bx, 0, none⟩)]), .iface 3 (.int .i64 n), .iface 9 (.string nm)]), u]) (hb : Row w bx 9 #[.string lb]) :
    Calls Try.prog 13 #[.pointer (some ⟨c, 0, none⟩), .int .i64 i, .int .i64 x] w fun e w' => (∃ g : Nat, e = .returned (.pointer (some ⟨g, 0, none⟩)) ∧ Row w' g 95 #[.string lb, .iface 3 (.int .i64 x)]) ∧ Below w.heap.size w w' := by
  obtain ⟨g, cap, k5, ki, lc, lg, li⟩ := h.get hi
  have q0 := hq.cell 0
  have q1 := hq.cell 1
  have b0 := hb.cell 0
  simp only [List.getElem?_toArray, List.getElem?_cons_succ, List.getElem?_cons_zero] at q0 q1 b0
  have lq := hq.lt
  have lbx := hb.lt
  have hb' := Lib.hid hb
  clear h hi hq hb
  go_enter Try.func13, Try.ntmps13
  go_wp2_with fail
  have hb2 : Below w.heap.size w (w.alloc (.cells #[.iface 92 (.func (.func 33) #[] #[.pointer (some ⟨bx, 0, none⟩)]), .iface 3 (.int .i64 n), .iface 9 (.string nm)] 90)) := (Below.refl _ _).alloc (Nat.le_refl _) _
  refine (funcIn _ bx _ lb (hb'.out.keep hb2 hb'.out.lt)).mono ?_
  rintro e w2 ⟨rfl, rfl⟩
  have HF := Lib.hid (show (∃ g : Nat, Ending.returned (.pointer (some ⟨w.heap.size + 1, 0, none⟩)) = .returned (.pointer (some ⟨g, 0, none⟩)) ∧ Row ((w.alloc (.cells #[.iface 92 (.func (.func 33) #[] #[.pointer (some ⟨bx, 0, none⟩)]), .iface 3 (.int .i64 n), .iface 9 (.string nm)] 90)).alloc (.cells #[.string lb, .iface 3 (.int .i64 x)] 95)) g 95 #[.string lb, .iface 3 (.int .i64 x)]) ∧ Below w.heap.size w ((w.alloc (.cells #[.iface 92 (.func (.func 33) #[] #[.pointer (some ⟨bx, 0, none⟩)]), .iface 3 (.int .i64 n), .iface 9 (.string nm)] 90)).alloc (.cells #[.string lb, .iface 3 (.int .i64 x)] 95)) from ⟨⟨_, rfl, Row.made' _ _ (by simp)⟩, hb2.alloc (by simp) _⟩)
  clear hb2
  go_wp2_with fail
  go_ret
  exact HF.out
end Go.Proofs.Ytdlckialndahhaa

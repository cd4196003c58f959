/-
  The contracts' parts (n001_1001): the base world and its tables, the builder with its text, bytes of the call's own.
-/
import Derived.Test.YtghcggagpagfoaaGreatDoorJson
import Derived.Test.YtghcggagpagfoaaGreatDoorRef
import Derived.Test.YtghcggagpagfoaaGreatDoorWt
import Derived.Lib.LaidTab
namespace Go.Proofs.YtghcggagpagfoaaGreatDoor
set_option linter.unusedVariables false
set_option linter.unusedSimpArgs false
open Go.ChangeShapes Go.WideShapes Go.ChangeAt Go.RowKit M
theorem spcNo : Tryz.prog.globalNamed "strings.asciiSpace" = some 0 := by kernel_rfl
theorem below_low {B C : Nat} {w w' : World} (h : Below B w w') (hc : C ≤ B) : Below C w w' := ⟨h.os, h.tape, h.output, h.size, fun k hk => h.block k (Nat.lt_of_lt_of_le hk hc)⟩
theorem spc_low {w w' : World} {zs : List Int} (h : Lib.TabIs Tryz.prog w "strings.asciiSpace" .u8 zs) (hb : Below 4 w w') : Lib.TabIs Tryz.prog w' "strings.asciiSpace" .u8 zs := by
 unfold Lib.TabIs World.var? at h ⊢; rw [spcNo] at h ⊢; simp only [Option.bind_some] at h ⊢; rw [hb.block 0 (by decide)]; exact h
/-- The base world: its tables; the blocks below B are left as they are. -/
structure Env (B : Nat) (w0 : World) : Prop where
 four : 4 ≤ B
 size : B ≤ w0.heap.size
 tabs : Lib.Utf8Tabs 2 3 w0
 spc : Lib.TabIs Tryz.prog w0 "strings.asciiSpace" .u8 Lib.asciiSpaceTab
theorem Env.at {B : Nat} {w0 w : World} (h : Env B w0) (hb : Below B w0 w) : Env w.heap.size w := ⟨Nat.le_trans h.four (Nat.le_trans h.size hb.size), Nat.le_refl _, tabs_low h.tabs (below_low hb h.four), spc_low h.spc (below_low hb h.four)⟩
theorem M.Row.at {B : Nat} {w0 w : World} {g : Nat} {t : TypeId} {cs : Array Value} (h : Row w0 g t cs) (hg : g < B) (hb : Below B w0 w) : Row w g t cs := (hb.block g hg).trans h
/-- The builder b (its blocks from B on) holds l; below B all is as in w0. -/
def BS (B : Nat) (w0 : World) (b : Nat) (l : L8) (w : World) : Prop := (∃ d, Bld w B b d l) ∧ Below B w0 w ∧ B ≤ w.heap.size
theorem BS.below {B b : Nat} {w0 w : World} {l : L8} (h : BS B w0 b l w) : Below B w0 w := h.2.1
theorem BS.size {B b : Nat} {w0 w : World} {l : L8} (h : BS B w0 b l w) : B ≤ w.heap.size := h.2.2
theorem BS.next {B b : Nat} {w0 w w' : World} {d : Option Nat} {l l' : L8} (hb : Bld w B b d l) (h : BS B w0 b l w) (ho : BOut w B b d l' w') : BS B w0 b l' w' := by
 have hbl := ho.below hb (Nat.le_refl _); have hsz := ho.size; obtain ⟨d', h1, _, _⟩ := ho; exact ⟨⟨d', h1⟩, h.2.1.trans hbl, Nat.le_trans h.2.2 hsz⟩
theorem BS.keep {B b : Nat} {w0 w w' : World} {l : L8} (h : BS B w0 b l w) (hb : Below w.heap.size w w') : BS B w0 b l w' := by
 obtain ⟨⟨d, h1⟩, h2, h3⟩ := h; exact ⟨⟨d, h1.below hb⟩, h2.trans (below_low hb h3), Nat.le_trans h3 hb.size⟩
theorem BS.wstr {B b : Nat} {w0 w : World} {l : L8} (h : BS B w0 b l w) (s : ByteArray) (l' : L8) (hl : l' = l ++ s.data.toList) (hlen : l'.length ≤ 1099511627776) :
  Calls Tryz.prog 40 #[.pointer (some ⟨b, 0, none⟩), .string s] w fun e w' => e = .returned (.tuple #[.int .i64 s.size, .nilIface]) ∧ BS B w0 b l' w' := by
 obtain ⟨d, h1⟩ := h.1; subst hl
 have h9 : (l ++ s.data.toList).length = l.length + s.size := by rw [List.length_append]; rfl
 refine (bstr w B b d l s h1 (by omega) h.2.2).mono ?_; rintro e w' ⟨rfl, ho⟩; exact ⟨rfl, h.next h1 ho⟩
theorem BS.wbyte {B b : Nat} {w0 w : World} {l : L8} (h : BS B w0 b l w) (c : UInt8) (n : Int) (hn : n = c.toNat) (l' : L8) (hl : l' = l ++ [c]) (hlen : l'.length ≤ 1099511627776) :
  Calls Tryz.prog 44 #[.pointer (some ⟨b, 0, none⟩), .int .u8 n] w fun e w' => e = .returned .nilIface ∧ BS B w0 b l' w' := by
 obtain ⟨d, h1⟩ := h.1; subst hl
 have h9 : (l ++ [c]).length = l.length + 1 := by rw [List.length_append]; rfl
 refine (bbyte w B b d l c n hn h1 (by omega) h.2.2).mono ?_; rintro e w' ⟨rfl, ho⟩; exact ⟨rfl, h.next h1 ho⟩
theorem BS.wesc {B b : Nat} {w0 w : World} {l : L8} (h : BS B w0 b l w) (he : Env B w0) (s : ByteArray) (hs : s.size ≤ 255) (l' : L8) (hl : l' = l ++ quoted s) (hlen : l'.length ≤ 1099511627776) :
  Calls Tryz.prog 67 #[.pointer (some ⟨b, 0, none⟩), .string s] w fun e w' => e = .returned (.tuple #[]) ∧ BS B w0 b l' w' := by
 obtain ⟨d, h1⟩ := h.1; subst hl; rw [List.length_append] at hlen; refine (jsonC w B b d l s h1 h.2.2 (tabs_low he.tabs (below_low h.2.1 he.four)) he.four (by omega) (by omega)).mono ?_; rintro e w' ⟨rfl, ho⟩; exact ⟨rfl, h.next h1 ho⟩
theorem BS.len {B b : Nat} {w0 w : World} {l : L8} (h : BS B w0 b l w) : Calls Tryz.prog 73 #[.pointer (some ⟨b, 0, none⟩)] w fun e w' => e = .returned (.int .i64 l.length) ∧ w = w' := by
 obtain ⟨d, h1⟩ := h.1; exact blen w B b d l h1
theorem BS.str {B b : Nat} {w0 w : World} {l : L8} (h : BS B w0 b l w) : Calls Tryz.prog 17 #[.pointer (some ⟨b, 0, none⟩)] w fun e w' => e = .returned (.string ⟨l.toArray⟩) ∧ BS B w0 b l w' := by
 obtain ⟨d, h1⟩ := h.1; refine (bstring w B b d l h1).mono ?_; rintro e w' ⟨rfl, ho⟩; exact ⟨rfl, h.next h1 ho.out⟩
/-- A list of nodes in the base world: its elements. -/
structure Ls (B : Nat) (w0 : World) (n : Nat) (K : Kd) (A : Option Addr) (L : Nat) (ts : List T) : Prop where
 len : ts.length = L
 get : ∀ j, j < L → ∃ ab ao q t, A = some ⟨ab, ao, none⟩ ∧ ab < B ∧ w0.cell? ⟨ab, ao + j, none⟩ = some (.pointer (some ⟨q, 0, none⟩)) ∧ ts[j]? = some t ∧ At (fun k => k < B) n w0 q t ∧ W K t
theorem Ls.kid {B n L : Nat} {w0 w : World} {K : Kd} {A : Option Addr} {ts : List T} (h : Ls B w0 n K A L ts) (hb : Below B w0 w) {j : Nat} (hj : j < L) (f : Nat → T → L8 → L8) (c : L8) :
  ∃ ab ao q t, A = some ⟨ab, ao, none⟩ ∧ (∀ w, Below B w0 w → w.cell? ⟨ab, ao + j, none⟩ = some (.pointer (some ⟨q, 0, none⟩))) ∧ itr f (ts.drop j) j c = itr f (ts.drop (j + 1)) (j + 1) (f j t c) ∧ At (fun k => k < B) n w0 q t ∧ W K t := by
 obtain ⟨ab, ao, q, t, rfl, h1, h2, h3, h4, h5⟩ := h.get j hj; refine ⟨ab, ao, q, t, rfl, fun w hb => (hb.cell h1).trans h2, ?_, h4, h5⟩; have hk := (List.getElem?_eq_some_iff.1 h3).1; have ht := (List.getElem?_eq_some_iff.1 h3).2; rw [List.drop_eq_getElem_cons hk, ht]; rfl
theorem Ls.fin {B n L : Nat} {w0 : World} {K : Kd} {A : Option Addr} {ts : List T} (h : Ls B w0 n K A L ts) (f : Nat → T → L8 → L8) (c : L8) : itr f (ts.drop L) L c = c := by
 rw [List.drop_eq_nil_of_le (by rw [h.len]; exact Nat.le_refl _)]; rfl
theorem Ls.drop {f : Nat → T → L8 → L8} {ts : List T} {c : L8} : itr f (ts.drop 0) 0 c = itr f ts 0 c := rfl
/-- The fields of a node in the base world. -/
theorem FV.pt {n B : Nat} {w0 : World} {o : Option T} {v : Value} (h : FV (At (fun k => k < B) n w0) (fun k => k < B) w0 (.p o) v) : (o = none ∧ v = .pointer none) ∨ ∃ t q, o = some t ∧ v = .pointer (some ⟨q, 0, none⟩) ∧ At (fun k => k < B) n w0 q t := by
 cases o with
 | none => exact .inl ⟨rfl, h⟩
 | some t =>
  obtain ⟨q, h1, h2⟩ := h; exact .inr ⟨t, q, rfl, h1, h2⟩
theorem FV.ls {n B : Nat} {w0 : World} {nn : Bool} {ts : List T} {v : Value} (K : Kd) (hW : ∀ t ∈ ts, W K t) (h : FV (At (fun k => k < B) n w0) (fun k => k < B) w0 (.l nn ts) v) : ∃ A c L, v = .slice A L c ∧ A.isSome = nn ∧ Ls B w0 n K A L ts := by
 obtain ⟨A, c, us, rfl, h1, h2, h3, h4⟩ := h; refine ⟨A, c, _, rfl, h1, rfl, fun j hj => ?_⟩; obtain ⟨b, o, v, rfl, hb, hv, hc⟩ := h2.get hj; have ht : ts[j]? = some ts[j] := List.getElem?_eq_getElem hj; obtain ⟨q, rfl, h6⟩ := h4 j _ _ ht hv; exact ⟨b, o, q, _, rfl, h3 _ rfl (by omega), hc, ht, h6, hW _ (List.getElem_mem hj)⟩
theorem isE {s : ByteArray} (h : s.size = 0) : s = ⟨#[]⟩ := by
 cases s with
 | mk d =>
  have : d = #[] := Array.eq_empty_of_size_eq_zero h; rw [this]
theorem isE1 {s : ByteArray} (h : s.size ≠ 0) : s.toList.isEmpty = false := by
 rw [ByteArray.toList_eq]
 cases s with
 | mk d =>
  cases hd : d.toList with
  | nil => exact absurd (by show d.size = 0; rw [← Array.length_toList, hd]; rfl) h
  | cons x r => rfl
/-- The kind's nodes, written into a builder. -/
def WC (fn : Nat) (K : Kd) (n : Nat) : Prop := ∀ (w0 w : World) (B b p : Nat) (l l' : L8) (t : T), W K t → At (fun k => k < B) n w0 p t → BS B w0 b l w → Env B w0 → l' = pr n t l → l'.length ≤ 1099511627776 →
 Calls Tryz.prog fn #[.pointer (some ⟨p, 0, none⟩), .pointer (some ⟨b, 0, none⟩)] w fun e w' => e = .returned (.tuple #[]) ∧ BS B w0 b l' w'
/-- The kind's nodes, by the law's own printer. -/
def RC (fn : Nat) (K : Kd) (n : Nat) : Prop := ∀ (w0 w : World) (B p : Nat) (v : Value) (l l' : L8) (t : T), W K t → At (fun k => k < B) n w0 p t → BN B w0 l v w → Env B w0 → l' = pr n t l → l'.length ≤ 1099511627776 →
 Calls Tryz.prog fn #[v, .pointer (some ⟨p, 0, none⟩)] w fun e w' => ∃ v', e = .returned v' ∧ BN B w0 l' v' w'
theorem BN.nil {w : World} : BN w.heap.size w [] (.slice none 0 0) w := ⟨none, 0, 0, none, rfl, Lh rfl, Lh ⟨⟨rfl, .inl ⟨rfl, rfl⟩⟩, rfl⟩, Lh (Below.refl _ _), Nat.le_refl _⟩
theorem BN.keep {B : Nat} {w0 w w' : World} {l : L8} {v : Value} (h : BN B w0 l v w) (hb : Below w.heap.size w w') : BN B w0 l v w' := by
 obtain ⟨A, n, c, d, rfl, h1, h2, h3, h4⟩ := h; exact ⟨A, n, c, d, rfl, h1, Lh (h2.out.below hb), Lh (h3.out.trans (below_low hb h4)), Nat.le_trans h4 hb.size⟩
theorem BN.below {B : Nat} {w0 w : World} {l : L8} {v : Value} (h : BN B w0 l v w) : Below B w0 w := by
 obtain ⟨A, n, c, d, rfl, h1, h2, h3, h4⟩ := h; exact h3.out
theorem BN.size {B : Nat} {w0 w : World} {l : L8} {v : Value} (h : BN B w0 l v w) : B ≤ w.heap.size := by
 obtain ⟨A, n, c, d, rfl, h1, h2, h3, h4⟩ := h; exact h4
theorem BN.form {B : Nat} {w0 w : World} {l : L8} {v : Value} (h : BN B w0 l v w) : ∃ A n c, v = .slice A n c ∧ n = l.length := by
 obtain ⟨A, n, c, d, rfl, h1, h2, h3, h4⟩ := h; exact ⟨A, n, c, rfl, h1.out⟩
/-- 'append(b, s...)', s a string. -/
theorem BN.str {ops : Array Oper} {rest : List Oper} {o : Oper} {a : Act} {Q : Exit → Act → World → Prop} {w w0 : World} {B : Nat} {v : Value} {l : L8} (h : BN B w0 l v w) (hgd : o.guard = none) (sl x : Operand) (ho : o.op = .call { callee := .builtin .append, args := #[sl, x], argTypes := #[tBytes, 9] })
  (hs : a.eval sl = v) (t : ByteArray) (hx : a.eval x = .string t) (l' : L8) (hl : l' = l ++ t.data.toList) (hlen : l'.length ≤ 1099511627776)
  (k : ∀ A n c w', BN B w0 l' (.slice A n c) w' → wpList Tryz.prog ops Q rest (a.put o.dst (.slice A n c)) w') : wpList Tryz.prog ops Q (o :: rest) a w := by
 obtain ⟨A, n, c, d, rfl, h1, h2, h3, h4⟩ := h; subst hl
 have h9 : (l ++ t.data.toList).length = l.length + t.size := by rw [List.length_append]; rfl
 refine wp_str hgd sl x ho w B _ d l hs h2.out t hx (by omega) h4 fun v' w' ho' => ?_
 have hb := ho'.partsN h4 (fun g hg => (h2.out.lt g hg).1) h3.out; obtain ⟨A', n', c', rfl, _⟩ := hb.form; exact k _ _ _ _ hb
/-- 'append(b, c0, c1, ..)'. -/
theorem BN.byt {ops : Array Oper} {rest : List Oper} {o : Oper} {a : Act} {Q : Exit → Act → World → Prop} {w W : World} {w0 : World} {B : Nat} {v : Value} {l : L8} (h : BN B w0 l v w) (hgd : o.guard = none) (sl x : Operand) (ho : o.op = .call { callee := .builtin .append, args := #[sl, x], argTypes := #[tBytes, tBytes] })
  (hs : a.eval sl = v) (c : UInt8) (N : Nat) (hN : N = w.heap.size) (cs : Array Value) (hcs : cs = #[.int .u8 c.toNat]) (hW : W = w.alloc (.cells cs tByte)) (hx : a.eval x = .slice (some ⟨N, 0, none⟩) 1 1) (l' : L8) (hl : l' = l ++ [c]) (hlen : l'.length ≤ 1099511627776)
  (k : ∀ A n c w', BN B w0 l' (.slice A n c) w' → wpList Tryz.prog ops Q rest (a.put o.dst (.slice A n c)) w') : wpList Tryz.prog ops Q (o :: rest) a W := by
 obtain ⟨A, n, c', d, rfl, h1, h2, h3, h4⟩ := h; subst hl
 have h9 : (l ++ [c]).length = l.length + 1 := by rw [List.length_append]; rfl
 refine wp_bytes hgd sl x ho w W N hN B _ d l hs h2.out [c] cs (by rw [hcs]; rfl) hW 1 rfl hx (by simp; omega) (by simp) (by simp) h4 fun v' w' ho' => ?_
 have hb := ho'.partsN h4 (fun g hg => (h2.out.lt g hg).1) h3.out; obtain ⟨A', n', c', rfl, _⟩ := hb.form; exact k _ _ _ _ hb
end Go.Proofs.YtghcggagpagfoaaGreatDoor

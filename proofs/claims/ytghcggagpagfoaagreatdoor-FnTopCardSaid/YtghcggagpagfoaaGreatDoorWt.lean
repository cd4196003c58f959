/-
  How long the text of a tree may be: its weight (n001_1001).
-/
import Derived.Test.YtghcggagpagfoaaGreatDoorSpec
namespace Go.Proofs.YtghcggagpagfoaaGreatDoor
set_option linter.unusedVariables false
set_option linter.unusedSimpArgs false
open Go.ChangeShapes Go.WideShapes Go.ChangeAt Go.RowKit M
theorem Lh {p : Prop} (h : p) : Hid p := Lib.hid h
theorem M.Row.cs2 {w : World} {g : Nat} {t : TypeId} {cs : Array Value} (h : Row w g t cs) (i j : Nat) : w.cell? ⟨g, i, none⟩ = cs[i]? ∧ w.cell? ⟨g, j, none⟩ = cs[j]? := ⟨h.cell i, h.cell j⟩
theorem M.Row.cs3 {w : World} {g : Nat} {t : TypeId} {cs : Array Value} (h : Row w g t cs) (i j k : Nat) : w.cell? ⟨g, i, none⟩ = cs[i]? ∧ w.cell? ⟨g, j, none⟩ = cs[j]? ∧ w.cell? ⟨g, k, none⟩ = cs[k]? := ⟨h.cell i, h.cell j, h.cell k⟩
theorem M.Row.cs4 {w : World} {g : Nat} {t : TypeId} {cs : Array Value} (h : Row w g t cs) (i j k l : Nat) : w.cell? ⟨g, i, none⟩ = cs[i]? ∧ w.cell? ⟨g, j, none⟩ = cs[j]? ∧ w.cell? ⟨g, k, none⟩ = cs[k]? ∧ w.cell? ⟨g, l, none⟩ = cs[l]? := ⟨h.cell i, h.cell j, h.cell k, h.cell l⟩
theorem M.Row.cs5 {w : World} {g : Nat} {t : TypeId} {cs : Array Value} (h : Row w g t cs) (i j k l m : Nat) : w.cell? ⟨g, i, none⟩ = cs[i]? ∧ w.cell? ⟨g, j, none⟩ = cs[j]? ∧ w.cell? ⟨g, k, none⟩ = cs[k]? ∧ w.cell? ⟨g, l, none⟩ = cs[l]? ∧ w.cell? ⟨g, m, none⟩ = cs[m]? := ⟨h.cell i, h.cell j, h.cell k, h.cell l, h.cell m⟩
theorem M.Row.cs7 {w : World} {g : Nat} {t : TypeId} {cs : Array Value} (h : Row w g t cs) (i j k l m n o : Nat) : w.cell? ⟨g, i, none⟩ = cs[i]? ∧ w.cell? ⟨g, j, none⟩ = cs[j]? ∧ w.cell? ⟨g, k, none⟩ = cs[k]? ∧ w.cell? ⟨g, l, none⟩ = cs[l]? ∧ w.cell? ⟨g, m, none⟩ = cs[m]? ∧ w.cell? ⟨g, n, none⟩ = cs[n]? ∧ w.cell? ⟨g, o, none⟩ = cs[o]? := ⟨h.cell i, h.cell j, h.cell k, h.cell l, h.cell m, h.cell n, h.cell o⟩
theorem M.Row.cs8 {w : World} {g : Nat} {t : TypeId} {cs : Array Value} (h : Row w g t cs) (i j k l m n o p : Nat) : w.cell? ⟨g, i, none⟩ = cs[i]? ∧ w.cell? ⟨g, j, none⟩ = cs[j]? ∧ w.cell? ⟨g, k, none⟩ = cs[k]? ∧ w.cell? ⟨g, l, none⟩ = cs[l]? ∧ w.cell? ⟨g, m, none⟩ = cs[m]? ∧ w.cell? ⟨g, n, none⟩ = cs[n]? ∧ w.cell? ⟨g, o, none⟩ = cs[o]? ∧ w.cell? ⟨g, p, none⟩ = cs[p]? := ⟨h.cell i, h.cell j, h.cell k, h.cell l, h.cell m, h.cell n, h.cell o, h.cell p⟩
def wtS : List ByteArray → Nat
  | [] => 0
  | s :: ss => s.size + 2 + wtS ss
mutual
def T.wt : T → Nat
  | .nd _ fs => 64 + wtF fs
def F.wt : F → Nat
  | .s b => 6 * b.size + 2
  | .i _ => 3
  | .b _ => 0
  | .p t => wtO t
  | .l _ ts => wtT ts
  | .ss l => wtS l
  | .any => 0
def wtF : List F → Nat
  | [] => 0
  | f :: fs => f.wt + wtF fs
def wtT : List T → Nat
  | [] => 0
  | t :: ts => t.wt + 6 + wtT ts
def wtO : Option T → Nat
  | none => 0
  | some t => t.wt
end
def Bb (l l' : L8) (w : Nat) : Prop := l.length ≤ l'.length ∧ l'.length ≤ l.length + w
theorem Bb.rf (l : L8) : Bb l l 0 := ⟨Nat.le_refl _, Nat.le_refl _⟩
theorem Bb.fin {l l' : L8} {w w' : Nat} (h : Bb l l' w) (hw : w ≤ w') : Bb l l' w' := ⟨h.1, Nat.le_trans h.2 (by omega)⟩
theorem Bb.tr {a b c : L8} {x y : Nat} (h : Bb a b x) (k : Bb b c y) : Bb a c (x + y) := ⟨Nat.le_trans h.1 k.1, by have := h.2; have := k.2; omega⟩
theorem Bb.ap {l X : L8} {w : Nat} (s : L8) (h : Bb l X w) : Bb l (X ++ s) (w + s.length) := ⟨by have := h.1; rw [List.length_append]; omega, by have := h.2; rw [List.length_append]; omega⟩
theorem Bb.f {f : T → L8 → L8} (hf : ∀ t l, Bb l (f t l) t.wt) {l X : L8} {w : Nat} (t : T) (h : Bb l X w) : Bb l (f t X) (w + t.wt) := h.tr (hf t X)
theorem Bb.op {g : T → L8 → L8} {l X : L8} {w : Nat} (o : Option T) (hg : ∀ t l, Bb l (g t l) (t.wt + 12)) (h : Bb l X w) : Bb l (opt o g X) (w + (wtO o + 12)) := by
  cases o with
  | none => exact h.fin (by omega)
  | some t => exact h.tr (hg t X)
theorem Bb.it0 {g : Nat → T → L8 → L8} (hg : ∀ j t l, Bb l (g j t l) (t.wt + 6)) : ∀ (ts : List T) (j : Nat) (X : L8), Bb X (itr g ts j X) (wtT ts)
  | [], j, X => (Bb.rf X).fin (Nat.zero_le _)
  | t :: ts, j, X => (hg j t X).tr (Bb.it0 hg ts (j + 1) _)
theorem Bb.it {g : Nat → T → L8 → L8} {l X : L8} {w : Nat} (ts : List T) (j : Nat) (hg : ∀ j t l, Bb l (g j t l) (t.wt + 6)) (h : Bb l X w) : Bb l (itr g ts j X) (w + wtT ts) := h.tr (Bb.it0 hg ts j X)
theorem Bb.is0 {g : Nat → ByteArray → L8 → L8} (hg : ∀ j s l, Bb l (g j s l) (s.size + 2)) : ∀ (ts : List ByteArray) (j : Nat) (X : L8), Bb X (itrS g ts j X) (wtS ts)
  | [], j, X => (Bb.rf X).fin (Nat.zero_le _)
  | t :: ts, j, X => (hg j t X).tr (Bb.is0 hg ts (j + 1) _)
theorem Bb.is {g : Nat → ByteArray → L8 → L8} {l X : L8} {w : Nat} (ts : List ByteArray) (j : Nat) (hg : ∀ j s l, Bb l (g j s l) (s.size + 2)) (h : Bb l X w) : Bb l (itrS g ts j X) (w + wtS ts) := h.tr (Bb.is0 hg ts j X)
theorem Bb.ite {p : Prop} [Decidable p] {l A C : L8} {x y : Nat} (h : Bb l A x) (k : Bb l C y) : Bb l (if p then A else C) (x + y) := by
  split
  · exact h.fin (by omega)
  · exact k.fin (by omega)
theorem ite_len {p : Prop} [Decidable p] {x y : L8} (hx : x.length ≤ 3) (hy : y.length ≤ 3) : (if p then x else y).length ≤ 3 := by
  split
  · exact hx
  · exact hy
theorem Bb.iteR {p : Prop} [Decidable p] {l A C : L8} {w : Nat} (h : Bb l A w) (k : Bb l C w) : Bb l (if p then A else C) w := by
  split
  · exact h
  · exact k
theorem opT_len (op : Int) : (opT op).length ≤ 3 := by
  unfold opT
  repeat (refine ite_len (by decide) ?_)
  decide
theorem dat_len (s : ByteArray) : s.data.toList.length = s.size := rfl
theorem Bb.dot {l X : L8} {w : Nat} (h : Bb l X w) : Bb l (dotted X) (w + 2) := by
  unfold dotted
  split
  · exact ((h.ap [32]).ap [46]).fin (by simp)
  · exact (h.ap [46]).fin (by simp)
theorem Bb.itf {f : T → L8 → L8} (hf : ∀ t l, Bb l (f t l) t.wt) {l X : L8} {w : Nat} (ts : List T) (j : Nat) (h : Bb l X w) : Bb l (itr (fun _ t l => f t l) ts j X) (w + wtT ts) := Bb.it ts j (fun _ t l => (hf t l).fin (by omega)) h
theorem Bb.itp {f : T → L8 → L8} (hf : ∀ t l, Bb l (f t l) t.wt) {l X : L8} {w : Nat} (s : L8) (hs : s.length ≤ 6) (ts : List T) (j : Nat) (h : Bb l X w) : Bb l (itr (fun _ t l => f t l ++ s) ts j X) (w + wtT ts) := Bb.it ts j (fun _ t l => ((hf t l).ap s).fin (by omega)) h
theorem Bb.itq {f : T → L8 → L8} (hf : ∀ t l, Bb l (f t l) t.wt) {l X : L8} {w : Nat} (s : L8) (hs : s.length ≤ 6) (ts : List T) (j : Nat) (h : Bb l X w) : Bb l (itr (fun _ t l => f t (l ++ s)) ts j X) (w + wtT ts) := Bb.it ts j (fun _ t l => (((Bb.rf l).ap s).f hf t).fin (by omega)) h
theorem Bb.itc {f : T → L8 → L8} (hf : ∀ t l, Bb l (f t l) t.wt) {l X : L8} {w : Nat} (s : L8) (hs : s.length ≤ 6) (ts : List T) (j : Nat) (h : Bb l X w) : Bb l (itr (fun j t l => f t (if j = 0 then l else l ++ s)) ts j X) (w + wtT ts) := Bb.it ts j (fun j t l => by
    split
    · exact (hf t l).fin (by omega)
    · exact (((Bb.rf l).ap s).f hf t).fin (by omega)) h
theorem Bb.opf {f : T → L8 → L8} (hf : ∀ t l, Bb l (f t l) t.wt) {l X : L8} {w : Nat} (o : Option T) (h : Bb l X w) : Bb l (opt o f X) (w + (wtO o + 12)) := Bb.op o (fun t l => (hf t l).fin (by omega)) h
theorem Bb.opq {f : T → L8 → L8} (hf : ∀ t l, Bb l (f t l) t.wt) {l X : L8} {w : Nat} (s : L8) (hs : s.length ≤ 12) (o : Option T) (h : Bb l X w) : Bb l (opt o (fun t l => f t (l ++ s)) X) (w + (wtO o + 12)) := Bb.op o (fun t l => (((Bb.rf l).ap s).f hf t).fin (by omega)) h
theorem Bb.opr {f : T → L8 → L8} (hf : ∀ t l, Bb l (f t l) t.wt) {l X : L8} {w : Nat} (s r : L8) (hs : s.length + r.length ≤ 12) (o : Option T) (h : Bb l X w) : Bb l (opt o (fun t l => f t (l ++ s) ++ r) X) (w + (wtO o + 12)) := Bb.op o (fun t l => ((((Bb.rf l).ap s).f hf t).ap r).fin (by omega)) h
theorem bCO (f : T → L8 → L8) (hf : ∀ t l, Bb l (f t l) t.wt) (fs : List F) (l : L8) : Bb l (prCO f fs l) (64 + wtF fs) := by
  unfold prCO
  (repeat' split) <;> (exact Bb.fin (by repeat' (first | exact Bb.rf _ | decide | apply Bb.opf hf | apply Bb.opr hf | apply Bb.opq hf | apply Bb.itf hf | apply Bb.itp hf | apply Bb.itc hf | apply Bb.itq hf | apply Bb.dot | apply Bb.ap | apply Bb.f hf)) (by (try simp only [wtF, F.wt, wtO, List.length_cons, List.length_nil, dat_len]); omega))
theorem bCA (f : T → L8 → L8) (hf : ∀ t l, Bb l (f t l) t.wt) (fs : List F) (l : L8) : Bb l (prCA f fs l) (64 + wtF fs) := by
  unfold prCA
  (repeat' split) <;> (exact Bb.fin (by repeat' (first | exact Bb.rf _ | decide | apply Bb.opf hf | apply Bb.opr hf | apply Bb.opq hf | apply Bb.itf hf | apply Bb.itp hf | apply Bb.itc hf | apply Bb.itq hf | apply Bb.dot | apply Bb.ap | apply Bb.f hf)) (by (try simp only [wtF, F.wt, wtO, List.length_cons, List.length_nil, dat_len]); omega))
theorem bKV (f : T → L8 → L8) (hf : ∀ t l, Bb l (f t l) t.wt) (fs : List F) (l : L8) : Bb l (prKV f fs l) (64 + wtF fs) := by
  unfold prKV
  (repeat' split) <;> (exact Bb.fin (by repeat' (first | exact Bb.rf _ | decide | apply Bb.opf hf | apply Bb.opr hf | apply Bb.opq hf | apply Bb.itf hf | apply Bb.itp hf | apply Bb.itc hf | apply Bb.itq hf | apply Bb.dot | apply Bb.ap | apply Bb.f hf)) (by (try simp only [wtF, F.wt, wtO, List.length_cons, List.length_nil, dat_len]); omega))
theorem bSX (f : T → L8 → L8) (hf : ∀ t l, Bb l (f t l) t.wt) (fs : List F) (l : L8) : Bb l (sfx f fs l) (62 + wtF fs) := by
  unfold sfx
  (repeat' split) <;> (exact Bb.fin (by repeat' (first | exact Bb.rf _ | decide | apply Bb.opf hf | apply Bb.opr hf | apply Bb.opq hf | apply Bb.itf hf | apply Bb.itp hf | apply Bb.itc hf | apply Bb.itq hf | apply Bb.dot | apply Bb.ap | apply Bb.f hf)) (by (try simp only [wtF, F.wt, wtO, List.length_cons, List.length_nil, dat_len]); omega))
theorem bFN (f : T → L8 → L8) (hf : ∀ t l, Bb l (f t l) t.wt) (fs : List F) (l : L8) : Bb l (prFN f fs l) (64 + wtF fs) := by
  unfold prFN
  (repeat' split) <;> (exact Bb.fin (by repeat' (first | exact Bb.rf _ | decide | apply Bb.opf hf | apply Bb.opr hf | apply Bb.opq hf | apply Bb.itf hf | apply Bb.itp hf | apply Bb.itc hf | apply Bb.itq hf | apply Bb.dot | apply Bb.ap | apply Bb.f hf)) (by (try simp only [wtF, F.wt, wtO, List.length_cons, List.length_nil, dat_len]); omega))
theorem bAR (f : T → L8 → L8) (hf : ∀ t l, Bb l (f t l) t.wt) (fs : List F) (l : L8) : Bb l (prAR f fs l) (64 + wtF fs) := by
  unfold prAR
  (repeat' split) <;> (exact Bb.fin (by repeat' (first | exact Bb.rf _ | decide | apply Bb.opf hf | apply Bb.opr hf | apply Bb.opq hf | apply Bb.itf hf | apply Bb.itp hf | apply Bb.itc hf | apply Bb.itq hf | apply Bb.dot | apply Bb.ap | apply Bb.f hf)) (by (try simp only [wtF, F.wt, wtO, List.length_cons, List.length_nil, dat_len]); omega))
theorem bIF (f : T → L8 → L8) (hf : ∀ t l, Bb l (f t l) t.wt) (fs : List F) (l : L8) : Bb l (prIF f fs l) (64 + wtF fs) := by
  unfold prIF
  (repeat' split) <;> (exact Bb.fin (by repeat' (first | exact Bb.rf _ | decide | apply Bb.opf hf | apply Bb.opr hf | apply Bb.opq hf | apply Bb.itf hf | apply Bb.itp hf | apply Bb.itc hf | apply Bb.itq hf | apply Bb.dot | apply Bb.ap | apply Bb.f hf)) (by (try simp only [wtF, F.wt, wtO, List.length_cons, List.length_nil, dat_len]); omega))
theorem bEL (f : T → L8 → L8) (hf : ∀ t l, Bb l (f t l) t.wt) (fs : List F) (l : L8) : Bb l (prEL f fs l) (64 + wtF fs) := by
  unfold prEL
  (repeat' split) <;> (exact Bb.fin (by repeat' (first | exact Bb.rf _ | decide | apply Bb.opf hf | apply Bb.opr hf | apply Bb.opq hf | apply Bb.itf hf | apply Bb.itp hf | apply Bb.itc hf | apply Bb.itq hf | apply Bb.dot | apply Bb.ap | apply Bb.f hf)) (by (try simp only [wtF, F.wt, wtO, List.length_cons, List.length_nil, dat_len]); omega))
theorem bTR (f : T → L8 → L8) (hf : ∀ t l, Bb l (f t l) t.wt) (fs : List F) (l : L8) : Bb l (prTR f fs l) (64 + wtF fs) := by
  unfold prTR
  (repeat' split) <;> (exact Bb.fin (by repeat' (first | exact Bb.rf _ | decide | apply Bb.opf hf | apply Bb.opr hf | apply Bb.opq hf | apply Bb.itf hf | apply Bb.itp hf | apply Bb.itc hf | apply Bb.itq hf | apply Bb.dot | apply Bb.ap | apply Bb.f hf)) (by (try simp only [wtF, F.wt, wtO, List.length_cons, List.length_nil, dat_len]); omega))
theorem bRD (f : T → L8 → L8) (hf : ∀ t l, Bb l (f t l) t.wt) (fs : List F) (l : L8) : Bb l (prRD f fs l) (64 + wtF fs) := by
  unfold prRD
  (repeat' split) <;> (exact Bb.fin (by repeat' (first | exact Bb.rf _ | decide | apply Bb.opf hf | apply Bb.opr hf | apply Bb.opq hf | apply Bb.itf hf | apply Bb.itp hf | apply Bb.itc hf | apply Bb.itq hf | apply Bb.dot | apply Bb.ap | apply Bb.f hf)) (by (try simp only [wtF, F.wt, wtO, List.length_cons, List.length_nil, dat_len]); omega))
theorem bFE (f : T → L8 → L8) (hf : ∀ t l, Bb l (f t l) t.wt) (fs : List F) (l : L8) : Bb l (prFE f fs l) (64 + wtF fs) := by
  unfold prFE
  (repeat' split) <;> (exact Bb.fin (by repeat' (first | exact Bb.rf _ | decide | apply Bb.opf hf | apply Bb.opr hf | apply Bb.opq hf | apply Bb.itf hf | apply Bb.itp hf | apply Bb.itc hf | apply Bb.itq hf | apply Bb.dot | apply Bb.ap | apply Bb.f hf)) (by (try simp only [wtF, F.wt, wtO, List.length_cons, List.length_nil, dat_len]); omega))
theorem bLB (f : T → L8 → L8) (hf : ∀ t l, Bb l (f t l) t.wt) (fs : List F) (l : L8) : Bb l (prLB f fs l) (64 + wtF fs) := by
  unfold prLB
  (repeat' split) <;> (exact Bb.fin (by repeat' (first | exact Bb.rf _ | decide | apply Bb.opf hf | apply Bb.opr hf | apply Bb.opq hf | apply Bb.itf hf | apply Bb.itp hf | apply Bb.itc hf | apply Bb.itq hf | apply Bb.dot | apply Bb.ap | apply Bb.f hf)) (by (try simp only [wtF, F.wt, wtO, List.length_cons, List.length_nil, dat_len]); omega))
theorem bPT (f : T → L8 → L8) (hf : ∀ t l, Bb l (f t l) t.wt) (fs : List F) (l : L8) : Bb l (prPT f fs l) (64 + wtF fs) := by
  unfold prPT
  (repeat' split) <;> (exact Bb.fin (by repeat' (first | exact Bb.rf _ | decide | apply Bb.opf hf | apply Bb.opr hf | apply Bb.opq hf | apply Bb.itf hf | apply Bb.itp hf | apply Bb.itc hf | apply Bb.itq hf | apply Bb.dot | apply Bb.ap | apply Bb.f hf)) (by (try simp only [wtF, F.wt, wtO, List.length_cons, List.length_nil, dat_len]); omega))
theorem bUN (f : T → L8 → L8) (hf : ∀ t l, Bb l (f t l) t.wt) (fs : List F) (l : L8) : Bb l (prUN f fs l) (64 + wtF fs) := by
  unfold prUN
  split
  · rename_i op t
    refine Bb.fin (((Bb.rf l).ap (opT op)).f hf t) ?_
    have := opT_len op
    simp only [wtF, F.wt, wtO]
    omega
  · exact (Bb.rf l).fin (by omega)
theorem bCKV (f : T → L8 → L8) (hf : ∀ t l, Bb l (f t l) t.wt) (fs : List F) (l : L8) : Bb l (prCKV f fs l) (64 + wtF fs) := by
  unfold prCKV
  split
  · rename_i k ks v
    have hq := (quoted_len ks).2
    split <;> (exact Bb.fin (by repeat' (first | exact Bb.rf _ | decide | apply Bb.opf hf | apply Bb.opr hf | apply Bb.opq hf | apply Bb.itf hf | apply Bb.itp hf | apply Bb.itc hf | apply Bb.itq hf | apply Bb.dot | apply Bb.ap | apply Bb.f hf)) (by (try simp only [wtF, F.wt, wtO, List.length_cons, List.length_nil, dat_len]); omega))
  · exact (Bb.rf l).fin (by omega)
theorem bCT (f : T → L8 → L8) (hf : ∀ t l, Bb l (f t l) t.wt) (fs : List F) (l : L8) : Bb l (prCT f fs l) (64 + wtF fs) := by
  unfold prCT
  split
  · rename_i ob ar num str nu tr fa
    have hq := (quoted_len str).2
    (repeat' split) <;> (exact Bb.fin (by repeat' (first | exact Bb.rf _ | decide | apply Bb.opf hf | apply Bb.opr hf | apply Bb.opq hf | apply Bb.itf hf | apply Bb.itp hf | apply Bb.itc hf | apply Bb.itq hf | apply Bb.dot | apply Bb.ap | apply Bb.f hf)) (by (try simp only [wtF, F.wt, wtO, List.length_cons, List.length_nil, dat_len]); omega))
  · exact (Bb.rf l).fin (by omega)
theorem bIM (f : T → L8 → L8) (hf : ∀ t l, Bb l (f t l) t.wt) (fs : List F) (l : L8) : Bb l (prIM f fs l) (64 + wtF fs) := by
  unfold prIM
  split
  · rename_i pa al inc me
    have hq := (quoted_len pa).2
    have hr := (quoted_len inc).2
    split <;> (exact Bb.fin (by repeat' (first | exact Bb.rf _ | decide | apply Bb.opf hf | apply Bb.opr hf | apply Bb.opq hf | apply Bb.itf hf | apply Bb.itp hf | apply Bb.itc hf | apply Bb.itq hf | apply Bb.dot | apply Bb.ap | apply Bb.f hf)) (by (try simp only [wtF, F.wt, wtO, List.length_cons, List.length_nil, dat_len]); omega))
  · exact (Bb.rf l).fin (by omega)
theorem bFD (f : T → L8 → L8) (hf : ∀ t l, Bb l (f t l) t.wt) (fs : List F) (l : L8) : Bb l (prFD f fs l) (64 + wtF fs) := by
  unfold prFD
  split
  · rename_i na ags b
    split
    · exact Bb.fin (by repeat' (first | exact Bb.rf _ | decide | apply Bb.opf hf | apply Bb.opr hf | apply Bb.opq hf | apply Bb.itf hf | apply Bb.itp hf | apply Bb.itc hf | apply Bb.itq hf | apply Bb.dot | apply Bb.ap | apply Bb.f hf)) (by (try simp only [wtF, F.wt, wtO, List.length_cons, List.length_nil, dat_len]); omega)
    · refine Bb.fin (Bb.ap _ (Bb.f hf _ (Bb.ap _ (Bb.ap _ (Bb.is _ _ (fun j s l => ?_) (Bb.ap _ (Bb.ap _ (Bb.ap _ (Bb.rf _))))))))) ?_
      · split
        · exact (Bb.ap _ (Bb.rf _)).fin (by rw [dat_len]; omega)
        · exact (Bb.ap _ (Bb.ap _ (Bb.rf _))).fin (by rw [dat_len]; simp; omega)
      · simp only [wtF, F.wt, wtO, List.length_cons, List.length_nil, dat_len]
        omega
  · exact (Bb.rf l).fin (by omega)
theorem bIX (f : T → L8 → L8) (hf : ∀ t l, Bb l (f t l) t.wt) (fs : List F) (l : L8) : Bb l (prIX f fs l) (64 + wtF fs) := by
  unfold prIX
  exact ((((Bb.rf l).dot).tr (bSX f hf fs _))).fin (by omega)
theorem bSF (f : T → L8 → L8) (hf : ∀ t l, Bb l (f t l) t.wt) (fs : List F) (l : L8) : Bb l (prSF f fs l) (64 + wtF fs) := by
  unfold prSF
  split
  · rename_i ix it op
    split
    · rename_i na str st en sl
      split
      · exact (hf (.nd 150 [.s na, .p str, .p st, .p en, .b sl]) l).fin (by simp only [wtF, F.wt, wtO, T.wt]; omega)
      · exact (hf (.nd 151 [.s na, .p str, .p st, .p en, .b sl]) l).fin (by simp only [wtF, F.wt, wtO, T.wt]; omega)
    · exact (Bb.rf l).fin (by omega)
    · (repeat' split) <;> (exact Bb.fin (by repeat' (first | exact Bb.rf _ | decide | apply Bb.opf hf | apply Bb.opr hf | apply Bb.opq hf | apply Bb.itf hf | apply Bb.itp hf | apply Bb.itc hf | apply Bb.itq hf | apply Bb.dot | apply Bb.ap | apply Bb.f hf)) (by (try simp only [wtF, F.wt, wtO, List.length_cons, List.length_nil, dat_len]); omega))
  · exact (Bb.rf l).fin (by omega)
theorem bSX' (f : T → L8 → L8) (hf : ∀ t l, Bb l (f t l) t.wt) (fs : List F) (l : L8) : Bb l (sfx f fs l) (64 + wtF fs) := (bSX f hf fs l).fin (by omega)
theorem inn_len (l : L8) : (inn l).length ≤ l.length := by
  unfold inn
  simp
  omega
theorem bST (f : T → L8 → L8) (hf : ∀ t l, Bb l (f t l) t.wt) (fs : List F) (l : L8) : Bb l (prST f fs l) (64 + wtF fs) := by
  unfold prST
  split
  · rename_i s nn qs
    have hq := (quoted_len s).2
    split
    · exact ((Bb.rf l).ap _).fin (by simp only [wtF, F.wt]; omega)
    · refine Bb.fin (Bb.ap _ (Bb.it _ _ (fun j t l => ?_) (Bb.ap _ (Bb.rf l)))) (by simp only [wtF, F.wt, List.length_cons, List.length_nil]; omega)
      split
      · refine ((Bb.rf l).ap _).fin ?_
        have h1 := inn_len (f t [])
        have h2 := (hf t []).2
        simp only [List.length_nil] at h2
        omega
      · exact (((Bb.rf l).ap _).f hf t).fin (by simp only [List.length_cons, List.length_nil]; omega)
  · exact (Bb.rf l).fin (by omega)
theorem bBT (f : T → L8 → L8) (hf : ∀ t l, Bb l (f t l) t.wt) (ty : Int) (ix fn ob ar : Option T) (num : ByteArray) (un : Option T) (fmt : ByteArray) (str ie tr rd fe lb : Option T) (brk : ByteArray) (q : Option T) (l : L8) :
    Bb l (bodyT f ty ix fn ob ar num un fmt str ie tr rd fe lb brk q l) (wtO ix + wtO fn + wtO ob + wtO ar + num.size + wtO un + fmt.size + wtO str + wtO ie + wtO tr + wtO rd + wtO fe + wtO lb + brk.size + wtO q + 20) := by
  unfold bodyT
  repeat' (refine Bb.iteR ?_ ?_)
  all_goals (exact Bb.fin (by repeat' (first | exact Bb.rf _ | decide | apply Bb.opf hf | apply Bb.opr hf | apply Bb.opq hf | apply Bb.itf hf | apply Bb.itp hf | apply Bb.itc hf | apply Bb.itq hf | apply Bb.dot | apply Bb.ap | apply Bb.f hf)) (by (try simp only [List.length_cons, List.length_nil, dat_len]); omega))
theorem bT (f : T → L8 → L8) (hf : ∀ t l, Bb l (f t l) t.wt) (fs : List F) (l : L8) : Bb l (prT f fs l) (64 + wtF fs) := by
  unfold prT
  split
  · exact (Bb.itf hf _ _ (bBT f hf _ _ _ _ _ _ _ _ _ _ _ _ _ _ _ _ l)).fin (by simp only [wtF, F.wt]; omega)
  · exact (Bb.rf l).fin (by omega)
theorem bQ (f : T → L8 → L8) (hf : ∀ t l, Bb l (f t l) t.wt) (fs : List F) (l : L8) : Bb l (prQ f fs l) (64 + wtF fs) := by
  unfold prQ
  split
  · rename_i me a ims b fds te le ri c ps op
    have h3 := Bb.itp hf [32] (by decide) fds 0 (Bb.itf hf ims 0 (Bb.opr hf [109, 111, 100, 117, 108, 101, 32] [59, 10] (by decide) me (Bb.rf l)))
    have hop := opT_len op
    simp only
    split
    · exact (Bb.f hf _ h3).fin (by simp only [wtF, F.wt, wtO]; omega)
    · split
      · exact h3.fin (by simp only [wtF, F.wt, wtO]; omega)
      · have h5 : Bb l (if op = 2 then opt le f (itr (fun _ t l => f t l ++ [32]) fds 0 (itr (fun _ t l => f t l) ims 0 (opt me (fun t l => f t (l ++ [109, 111, 100, 117, 108, 101, 32]) ++ [59, 10]) l))) else opt le f (itr (fun _ t l => f t l ++ [32]) fds 0 (itr (fun _ t l => f t l) ims 0 (opt me (fun t l => f t (l ++ [109, 111, 100, 117, 108, 101, 32]) ++ [59, 10]) l))) ++ [32]) (0 + (wtO me + 12) + wtT ims + wtT fds + (wtO le + 12) + 1) := by
          split
          · exact (Bb.opf hf le h3).fin (by omega)
          · exact (Bb.ap _ (Bb.opf hf le h3)).fin (by simp only [List.length_cons, List.length_nil]; omega)
        refine Bb.fin (Bb.f hf _ (Bb.ap _ (Bb.ap _ (Bb.it _ _ (fun j t l => ?_) h5)))) ?_
        · split
          · exact (Bb.ap _ (Bb.f hf t (Bb.ap _ (Bb.rf l)))).fin (by simp only [List.length_cons, List.length_nil]; omega)
          · exact (Bb.ap _ (Bb.f hf t (Bb.ap _ (Bb.rf l)))).fin (by simp only [List.length_cons, List.length_nil]; omega)
        · simp only [wtF, F.wt, wtO, List.length_cons, List.length_nil]
          omega
  · exact (Bb.rf l).fin (by omega)
theorem bK (f : T → L8 → L8) (hf : ∀ t l, Bb l (f t l) t.wt) (k : Nat) (fs : List F) (l : L8) : Bb l (prK f k fs l) (64 + wtF fs) := by
  unfold prK
  refine Bb.iteR (bQ f hf fs l) ?_
  refine Bb.iteR (bT f hf fs l) ?_
  refine Bb.iteR (bCO f hf fs l) ?_
  refine Bb.iteR (bCKV f hf fs l) ?_
  refine Bb.iteR (bCT f hf fs l) ?_
  refine Bb.iteR (bCA f hf fs l) ?_
  refine Bb.iteR (bIM f hf fs l) ?_
  refine Bb.iteR (bFD f hf fs l) ?_
  refine Bb.iteR (bPT f hf fs l) ?_
  refine Bb.iteR (bKV f hf fs l) ?_
  refine Bb.iteR (bIX f hf fs l) ?_
  refine Bb.iteR (bSX' f hf fs l) ?_
  refine Bb.iteR (bFN f hf fs l) ?_
  refine Bb.iteR (bCO f hf fs l) ?_
  refine Bb.iteR (bKV f hf fs l) ?_
  refine Bb.iteR (bAR f hf fs l) ?_
  refine Bb.iteR (bSF f hf fs l) ?_
  refine Bb.iteR (bIF f hf fs l) ?_
  refine Bb.iteR (bEL f hf fs l) ?_
  refine Bb.iteR (bTR f hf fs l) ?_
  refine Bb.iteR (bRD f hf fs l) ?_
  refine Bb.iteR (bFE f hf fs l) ?_
  refine Bb.iteR (bLB f hf fs l) ?_
  refine Bb.iteR (bUN f hf fs l) ?_
  refine Bb.iteR (bST f hf fs l) ?_
  exact (Bb.rf l).fin (by omega)
theorem prB : ∀ (n : Nat) (t : T) (l : L8), Bb l (pr n t l) t.wt
  | 0, t, l => (Bb.rf l).fin (Nat.zero_le _)
  | n + 1, .nd k fs, l => bK (pr n) (prB n) k fs l
theorem prLe (n : Nat) (t : T) (l : L8) : l.length ≤ (pr n t l).length := (prB n t l).1
theorem itrLe {g : Nat → T → L8 → L8} (hg : ∀ j t l, l.length ≤ (g j t l).length) : ∀ (ts : List T) (j : Nat) (X : L8), X.length ≤ (itr g ts j X).length
  | [], j, X => Nat.le_refl _
  | t :: ts, j, X => Nat.le_trans (hg j t X) (itrLe hg ts (j + 1) _)
theorem optLe {g : T → L8 → L8} (hg : ∀ t l, l.length ≤ (g t l).length) (o : Option T) (X : L8) : X.length ≤ (opt o g X).length := by
  cases o with
  | none => exact Nat.le_refl _
  | some t => exact hg t X
end Go.Proofs.YtghcggagpagfoaaGreatDoor

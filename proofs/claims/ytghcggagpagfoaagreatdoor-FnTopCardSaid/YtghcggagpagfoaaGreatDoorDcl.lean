/-
  The decoders' parts (n001_1001): nodes laid, fields set, lists that grow by one in a round.
-/
import Derived.Test.YtghcggagpagfoaaGreatDoorDch
namespace Go.Proofs.YtghcggagpagfoaaGreatDoor
set_option linter.unusedVariables false
set_option linter.unusedSimpArgs false
open Go.ChangeShapes Go.WideShapes Go.ChangeAt Go.RowKit M
theorem nW {K : Kd} : ∀ t, (none : Option T) = some t → W K t := fun _ x => by cases x
theorem sW {K : Kd} {t : T} (h : W K t) : ∀ t', some t = some t' → W K t' := by
  intro t' x
  cases x
  exact h
theorem mW {K : Kd} : ∀ t ∈ ([] : List T), W K t := fun _ x => by cases x
theorem sz0 : (⟨#[]⟩ : ByteArray).size = 0 := rfl
def FVL (P : Nat → T → Prop) (ok : Nat → Prop) (w : World) : List F → List Value → Prop
  | [], [] => True
  | f :: fs, v :: vs => FV P ok w f v ∧ FVL P ok w fs vs
  | _, _ => False
theorem FVL.get {P : Nat → T → Prop} {ok : Nat → Prop} {w : World} : ∀ {fs : List F} {vs : List Value}, FVL P ok w fs vs → vs.length = fs.length ∧ ∀ (i : Nat) (f : F) (v : Value), fs[i]? = some f → vs[i]? = some v → FV P ok w f v
  | [], [], _ => ⟨rfl, fun i f v hf _ => by cases hf⟩
  | f :: fs, v :: vs, h => by
    obtain ⟨h1, h2⟩ := FVL.get h.2
    refine ⟨by simp [h1], fun i f' v' hf hv => ?_⟩
    cases i with
    | zero =>
      cases hf
      cases hv
      exact h.1
    | succ i => exact h2 i f' v' hf hv
  | [], _ :: _, h => h.elim
  | _ :: _, [], h => h.elim
/-- A node laid, its children made since b0. -/
theorem Und.lay {w : World} {b0 k h : Nat} {cs : List Value} {fs : List F} (hb : b0 ≤ w.heap.size) (hl : FVL (At (fun j => b0 ≤ j) h w) (fun j => b0 ≤ j) w fs cs) : Und b0 (fun _ => False) (w.alloc (.cells cs.toArray k)) w.heap.size k h fs cs := by
  obtain ⟨h1, h2⟩ := hl.get
  refine ⟨Row.made w k cs.toArray, hb, h1, fun i f v hf hv => ?_⟩
  have ht : Touch (fun _ => False) w (w.alloc (.cells cs.toArray k)) := (Touch.refl _ w).alloc _
  exact (h2 i f v hf hv).imp (fun q t hq => At.turn ht (fun _ _ _ x => x) (fun j hj hl => ⟨hj, by omega, fun x => x⟩) h hq) ht (fun _ _ _ x => x) (fun j hj hl => ⟨hj, by omega, fun x => x⟩)
theorem Und.ofRow {w : World} {b0 p k h : Nat} {cs : List Value} {fs : List F} (hr : Row w p k cs.toArray) (hb : b0 ≤ p) (hl : FVL (At (fun j => b0 ≤ j ∧ j ≠ p ∧ ¬ (fun _ => False) j) h w) (fun j => b0 ≤ j ∧ j ≠ p ∧ ¬ (fun _ => False) j) w fs cs) : Und b0 (fun _ => False) w p k h fs cs :=
  ⟨hr, hb, hl.get.1, hl.get.2⟩
/-- A child that stands apart from p. -/
theorem At.apart {w : World} {b b0 p n h q : Nat} {t : T} (ha : At (fun j => b ≤ j) n w q t) (hb : b0 ≤ b) (hp : p < b) (hn : n ≤ h) : FV (At (fun j => b0 ≤ j ∧ j ≠ p ∧ ¬ (fun _ => False) j) h w) (fun j => b0 ≤ j ∧ j ≠ p ∧ ¬ (fun _ => False) j) w (.p (some t)) (.pointer (some ⟨q, 0, none⟩)) :=
  ⟨q, rfl, At.turn (Touch.refl (fun _ => False) w) (fun _ _ _ x => x) (fun j hj _ => by have hj' : b ≤ j := hj; exact ⟨by omega, by omega, fun x => x⟩) h (At.le hn ha)⟩
theorem At.kidF {w : World} {b b0 n h q : Nat} {t : T} (ha : At (fun j => b ≤ j) n w q t) (hb : b0 ≤ b) (hn : n ≤ h) : FV (At (fun j => b0 ≤ j) h w) (fun j => b0 ≤ j) w (.p (some t)) (.pointer (some ⟨q, 0, none⟩)) :=
  ⟨q, rfl, At.turn (Touch.refl (fun _ => False) w) (fun _ _ _ x => x) (fun j hj _ => Nat.le_trans hb hj) h (At.le hn ha)⟩
theorem At.put {ok : Nat → Prop} {w : World} {n q p j : Nat} {t : T} {v : Value} (ha : At ok n w q t) (hp : ¬ ok p) : At ok n (w.setCell ⟨p, j, none⟩ v) q t :=
  At.turn ((Touch.refl (fun k => k = p) w).setCell (p := ⟨p, j, none⟩) (fun _ => rfl) v) (fun k hk _ e => hp (by have e' : k = p := e; rw [← e']; exact hk)) (fun _ x _ => x) n ha
theorem M.Row.rd {w w' : World} {rb p k : Nat} {cs : Array Value} (hr : Row w p k cs) (ht : Touch (fun j => j = rb) w w') (hp : rb < p) : Row w' p k cs := hr.touch ht (by omega)
theorem M.Row.putO {w : World} {p p' k j : Nat} {cs : Array Value} {v : Value} (hr : Row w p k cs) (hp : p ≠ p') : Row (w.setCell ⟨p', j, none⟩ v) p k cs := hr.touch ((Touch.refl (fun i => i = p') w).setCell (p := ⟨p', j, none⟩) (fun _ => rfl) v) hp
theorem RD.list {w W W' : World} {rb : Nat} {a : Option Addr} {len cap : Nat} {z : List Int} {i i' : Nat} {S : Nat → Prop} (h : RD W rb a len cap z i) (h0 : RD w rb a len cap z i') (ht : Touch S W W') (hS : ∀ j, S j → w.heap.size ≤ j) : RD W' rb a len cap z i :=
  h.touch ht (fun x => by have := h0.row.lt; have := hS _ x; omega) (fun hl x hx e => by
    obtain ⟨b, o, ha, hb, _⟩ := h0.code.2 hl
    rw [hx] at ha
    cases ha
    have := hS _ e
    have hb' : b < w.heap.size := hb
    have e' : w.heap.size ≤ b := this
    omega)
/-- A loop that adds a node in a round: n rounds in all; w: the world at the call's outset. -/
def LI (y : Bool) (w : World) (rb : Nat) (a : Option Addr) (len cap : Nat) (z : List Int) (b0 p k idx e h : Nat) (fs : List F) (cs : Value → List Value) (K : Kd) (C i0 n : Nat) (t : Value) (wr : World) : Prop :=
  ∃ (j : Nat) (v : Value) (us : List Value) (ts : List T) (i' : Nat), j ≤ n ∧ t = .int .i64 j ∧ Hid (Lsu y b0 wr p k idx e j h fs (cs v) v us ts) ∧ Hid (RD wr rb a len cap z i') ∧ Hid (Touch (fun k => k = rb) w wr) ∧ Hid (∀ t ∈ ts, W K t) ∧ Hid (wtT ts + 40000 * i0 ≤ 40000 * i' + j * (C + 6))
theorem wtT_snoc (ts : List T) (t : T) : wtT (ts ++ [t]) = wtT ts + (t.wt + 6) := by
  induction ts with
  | nil => simp [wtT]
  | cons a r ih =>
    simp only [List.cons_append, wtT, ih]
    omega
theorem LI.start {w W : World} {rb : Nat} {a : Option Addr} {len cap : Nat} {z : List Int} {b0 p k idx e h : Nat} {fs fs' : List F} {cs : Value → List Value} {K : Kd} {C i0 n : Nat} (u : Und b0 (fun _ => False) W p k h fs (cs (.slice none 0 0))) (hc : (cs (.slice none 0 0))[idx]? = some (.slice none 0 0)) (hfs : fs' = fs.set idx .any) (hi : idx < fs.length) (hr : RD W rb a len cap z i0) (ht : Touch (fun k => k = rb) w W) : LI false w rb a len cap z b0 p k idx e h fs' cs K C i0 n (.int .i64 0) W :=
  ⟨0, _, [], [], i0, Nat.zero_le _, rfl, Lh ⟨Lco.start u idx hc fs' hfs hi, ⟨rfl, fun _ _ _ x _ => by cases x⟩, rfl⟩, Lh hr, Lh ht, Lh (fun _ x => by cases x), Lh (by simp [wtT])⟩
theorem LI.startL {y : Bool} {w W : World} {rb : Nat} {a : Option Addr} {len cap : Nat} {z : List Int} {b0 p k idx e h : Nat} {fs : List F} {cs : Value → List Value} {v : Value} {K : Kd} {C i0 n : Nat} (u : Lco y b0 W p k idx e 0 h fs (cs v) v []) (hr : RD W rb a len cap z i0) (ht : Touch (fun k => k = rb) w W) : LI y w rb a len cap z b0 p k idx e h fs cs K C i0 n (.int .i64 0) W :=
  ⟨0, _, [], [], i0, Nat.zero_le _, rfl, Lh ⟨u, ⟨rfl, fun _ _ _ x _ => by cases x⟩, rfl⟩, Lh hr, Lh ht, Lh (fun _ x => by cases x), Lh (by simp [wtT])⟩
/-- A list begins as an empty slice that is laid. -/
theorem Lco.startE {b0 : Nat} {w : World} {p k e h : Nat} {fs : List F} {cs : List Value} (u : Und b0 (fun _ => False) w p k h fs cs) (hb : b0 ≤ w.heap.size) (i : Nat) (fs' : List F) (cs' : List Value) (hfs : fs' = fs.set i .any) (hcs : cs' = cs.set i (.slice (some ⟨w.heap.size, 0, none⟩) 0 0)) (hi : i < fs.length) (hne : e ≠ k) :
    Lco true b0 ((w.setCell ⟨p, i, none⟩ (.slice (some ⟨w.heap.size, 0, none⟩) 0 0)).alloc (.cells #[] e)) p k i e 0 h fs' cs' (.slice (some ⟨w.heap.size, 0, none⟩) 0 0) [] := by
  subst hfs hcs
  have hl := u.row.lt
  have hci : i < cs.length := by rw [u.len]; exact hi
  have hs : Touch (fun j => j = p) w (w.setCell ⟨p, i, none⟩ (.slice (some ⟨w.heap.size, 0, none⟩) 0 0)) := (Touch.refl (fun j => j = p) _).setCell (fun _ => rfl) _
  have ha : Touch (fun j => j = p) w ((w.setCell ⟨p, i, none⟩ (.slice (some ⟨w.heap.size, 0, none⟩) 0 0)).alloc (.cells #[] e)) := hs.alloc _
  have hr := Row.made (w.setCell ⟨p, i, none⟩ (.slice (some ⟨w.heap.size, 0, none⟩) 0 0)) e #[]
  rw [World.size_setCell] at hr
  have ho : ((w.setCell ⟨p, i, none⟩ (.slice (some ⟨w.heap.size, 0, none⟩) 0 0)).alloc (.cells #[] e)).ownsRow b0 e 1 (.slice (some ⟨w.heap.size, 0, none⟩) 0 0) 0 [] := ⟨rfl, .inr ⟨w.heap.size, 0, #[], rfl, hb, hr, Nat.le_refl _, by decide, rfl, rfl⟩⟩
  refine ⟨⟨?_, u.base, by simp [u.len], fun i' f' v' hf' hv' => ?_⟩, List.getElem?_set_self hci, List.getElem?_set_self hi, ho, rfl⟩
  · have := u.row.put i (.slice (some ⟨w.heap.size, 0, none⟩) 0 0)
    rw [List.setIfInBounds_toArray] at this
    exact this.alloc _
  · by_cases hii : i = i'
    · subst hii
      rw [List.getElem?_set_self hi] at hf'
      cases hf'
      exact trivial
    · rw [List.getElem?_set_ne hii] at hf' hv'
      have hn : ∀ j, (b0 ≤ j ∧ j ≠ p ∧ ¬ False) → j < w.heap.size → ¬ (j = p) := fun j hj _ x => hj.2.1 x
      have hm : ∀ j, (b0 ≤ j ∧ j ≠ p ∧ ¬ False) → j < w.heap.size → (b0 ≤ j ∧ j ≠ p ∧ ¬ (Value.slice (some ⟨w.heap.size, 0, none⟩) 0 0).ownBlock = some j) := fun j hj hl => ⟨hj.1, hj.2.1, fun x => by have x' : w.heap.size = j := Option.some.inj x; omega⟩
      exact (u.fld i' f' v' hf' hv').imp (fun q t hq => At.turn ha hn hm h hq) ha hn hm
theorem LI.next {y : Bool} {w wr w4 w6 : World} {rb : Nat} {a : Option Addr} {len cap : Nat} {z : List Int} {b0 p k idx e h j g6 c6 q i' i4 hc d' : Nat} {fs : List F} {cs : Value → List Value} {K : Kd} {C i0 n : Nat} {v : Value} {us : List Value} {ts : List T} {t : T}
    (hne : e ≠ k) (hb0 : w.heap.size ≤ b0) (hj : j < n) (l : Lsu y b0 wr p k idx e j h fs (cs v) v us ts) (h0 : RD w rb a len cap z d') (htt : Touch (fun k => k = rb) w wr) (hW : ∀ t ∈ ts, W K t) (hq : wtT ts + 40000 * i0 ≤ 40000 * i' + j * (C + 6))
    (hr4 : RD w4 rb a len cap z i4) (ha4 : At (fun k => wr.heap.size ≤ k) hc w4 q t) (hch : hc ≤ h) (hW4 : W K t) (hq4 : t.wt + 40000 * i' ≤ 40000 * i4 + C) (ht4 : Touch (fun k => k = rb) wr w4)
    (ho : w6.ownsRow b0 e 1 (.slice (some ⟨g6, 0, none⟩) (j + 1) c6) (j + 1) (us ++ [.pointer (some ⟨q, 0, none⟩)])) (h2 : Touch (fun j => v.ownBlock = some j) (w4.alloc (.cells #[.pointer (some ⟨q, 0, none⟩)] e)) w6) (hg : v.ownBlock = some g6 ∨ g6 = (w4.alloc (.cells #[.pointer (some ⟨q, 0, none⟩)] e)).heap.size)
    (hcs : cs (.slice (some ⟨g6, 0, none⟩) (j + 1) c6) = (cs v).set idx (.slice (some ⟨g6, 0, none⟩) (j + 1) c6)) (I : Int) (hI : I = ((j + 1 : Nat) : Int)) :
    LI y w rb a len cap z b0 p k idx e h fs cs K C i0 n (.int .i64 I) (w6.setCell ⟨p, idx, none⟩ (.slice (some ⟨g6, 0, none⟩) (j + 1) c6)) := by
  have hrb := h0.row.lt
  have hl4 := l.rd ht4 (by omega)
  have hbase := l.und.base
  obtain ⟨P1, P2⟩ := hl4.push (w := wr) hne l.und.row.lt (by have := l.und.row.lt; omega) (fun j x => (l.own.lt j x).2) (At.le hch ha4) ho h2 hg _ hcs
  have hS : ∀ j, (j = p ∨ v.ownBlock = some j) → w.heap.size ≤ j := fun j x => by
    rcases x with x | x
    · omega
    · have := (l.own.lt j x).1; omega
  refine ⟨j + 1, _, _, _, i4, by omega, by rw [hI], Lh P1, Lh (hr4.list h0 P2 hS), Lh ((htt.trans' ht4 (fun _ _ x => x)).trans' P2 (fun i hi x => by have := hS i x; omega)), Lh (fun t' ht' => ?_), Lh ?_⟩
  · rcases List.mem_append.1 ht' with x | x
    · exact hW _ x
    · rw [List.mem_singleton.1 x]; exact hW4
  · rw [wtT_snoc]
    have : (j + 1) * (C + 6) = j * (C + 6) + (C + 6) := by rw [Nat.add_mul, Nat.one_mul]
    omega
/-- A loop that adds a name in a round. -/
def LS (w : World) (rb : Nat) (a : Option Addr) (len cap : Nat) (z : List Int) (b0 p k idx e h : Nat) (fs : List F) (cs : Value → List Value) (i0 n : Nat) (t : Value) (wr : World) : Prop :=
  ∃ (j : Nat) (v : Value) (ss : List ByteArray) (i' : Nat), j ≤ n ∧ t = .int .i64 j ∧ Hid (Lco false b0 wr p k idx e j h fs (cs v) v (strV ss)) ∧ Hid (RD wr rb a len cap z i') ∧ Hid (Touch (fun k => k = rb) w wr) ∧ Hid (∀ s ∈ ss, s.size ≤ 8) ∧ Hid (ss.length = j) ∧ Hid (i0 ≤ i')
theorem wtS_le : ∀ (ss : List ByteArray), (∀ s ∈ ss, s.size ≤ 8) → wtS ss ≤ 10 * ss.length
  | [], _ => Nat.le_refl _
  | s :: ss, h => by
    have h1 := h s (List.mem_cons_self)
    have h2 := wtS_le ss (fun x hx => h x (List.mem_cons_of_mem _ hx))
    simp only [wtS, List.length_cons]
    omega
theorem LS.start {w W : World} {rb : Nat} {a : Option Addr} {len cap : Nat} {z : List Int} {b0 p k idx e h : Nat} {fs fs' : List F} {cs : Value → List Value} {i0 n : Nat} (u : Und b0 (fun _ => False) W p k h fs (cs (.slice none 0 0))) (hc : (cs (.slice none 0 0))[idx]? = some (.slice none 0 0)) (hfs : fs' = fs.set idx .any) (hi : idx < fs.length) (hr : RD W rb a len cap z i0) (ht : Touch (fun k => k = rb) w W) : LS w rb a len cap z b0 p k idx e h fs' cs i0 n (.int .i64 0) W :=
  ⟨0, _, [], i0, Nat.zero_le _, rfl, Lh (Lco.start u idx hc fs' hfs hi), Lh hr, Lh ht, Lh (fun _ x => by cases x), Lh rfl, Lh (Nat.le_refl _)⟩
theorem LS.next {w w4 w6 : World} {rb : Nat} {a : Option Addr} {len cap : Nat} {z : List Int} {b0 p k idx e h j g6 c6 i' i4 d' : Nat} {fs : List F} {cs : Value → List Value} {i0 n : Nat} {v : Value} {ss : List ByteArray} {s : ByteArray}
    (hne : e ≠ k) (hb0 : w.heap.size ≤ b0) (hj : j < n) (l : Lco false b0 w4 p k idx e j h fs (cs v) v (strV ss)) (h0 : RD w rb a len cap z d') (htt : Touch (fun k => k = rb) w w4) (hS : ∀ s ∈ ss, s.size ≤ 8) (hls : ss.length = j) (hq : i0 ≤ i')
    (hr4 : RD w4 rb a len cap z i4) (hi4 : i' ≤ i4) (hs : s.size ≤ 8)
    (ho : w6.ownsRow b0 e 1 (.slice (some ⟨g6, 0, none⟩) (j + 1) c6) (j + 1) (strV ss ++ [.string s])) (h2 : Touch (fun j => v.ownBlock = some j) (w4.alloc (.cells #[.string s] e)) w6) (hg : v.ownBlock = some g6 ∨ g6 = (w4.alloc (.cells #[.string s] e)).heap.size)
    (hcs : cs (.slice (some ⟨g6, 0, none⟩) (j + 1) c6) = (cs v).set idx (.slice (some ⟨g6, 0, none⟩) (j + 1) c6)) (I : Int) (hI : I = ((j + 1 : Nat) : Int)) :
    LS w rb a len cap z b0 p k idx e h fs cs i0 n (.int .i64 I) (w6.setCell ⟨p, idx, none⟩ (.slice (some ⟨g6, 0, none⟩) (j + 1) c6)) := by
  have hbase := l.und.base
  obtain ⟨P1, P2⟩ := l.push hne ho h2 hg _ hcs
  have hSS : ∀ j, (j = p ∨ v.ownBlock = some j) → w.heap.size ≤ j := fun j x => by
    rcases x with x | x
    · omega
    · have := (l.own.lt j x).1; omega
  have e1 : strV (ss ++ [s]) = strV ss ++ [.string s] := by simp [strV]
  refine ⟨j + 1, _, ss ++ [s], i4, by omega, by rw [hI], Lh (by rw [e1]; exact P1), Lh (hr4.list h0 P2 hSS), Lh (htt.trans' P2 (fun i hi x => by have := hSS i x; omega)), Lh (fun t' ht' => ?_), Lh (by simp [hls]), Lh (by omega)⟩
  rcases List.mem_append.1 ht' with x | x
  · exact hS _ x
  · rw [List.mem_singleton.1 x]; exact hs
theorem DOut.of {w w' : World} {rb : Nat} {a : Option Addr} {len cap : Nat} {z : List Int} {i i' : Nat} {K : Kd} {C H b0 p k h : Nat} {fs : List F} {cs : List Value} (u : Und b0 (fun _ => False) w' p k h fs cs) (hb : w.heap.size ≤ b0) (hh : h + 1 ≤ H) (hr : RD w' rb a len cap z i') (hw : W K (.nd k fs)) (hq : T.wt (.nd k fs) + 40000 * i ≤ 40000 * i' + C) (ht : Touch (fun k => k = rb) w w') : DOut w rb a len cap z i K C H (.returned (.pointer (some ⟨p, 0, none⟩))) w' :=
  ⟨p, _, i', rfl, hr, At.turn (Touch.refl (fun _ => False) _) (fun _ _ _ x => x) (fun j hj _ => Nat.le_trans hb hj) _ (At.le hh u.fin), hw, hq, ht⟩
theorem infoP (e : TypeId) (h : (Tryz.prog.info? e).map (fun i => (i.zero, i.size, i.bytes)) = some (some (.pointer none), 1, 8)) : (Tryz.prog.info? e).map (fun i => (i.zero, i.size, i.bytes)) = some (some (.pointer none), 1, 8) := h
theorem W.leaf (ty : Int) (num fmt brk : ByteArray) (h1 : 1 ≤ ty) (h2 : ty ≤ 20) (h3 : ty ≠ 6 ∧ ty ≠ 7 ∧ ty ≠ 8 ∧ ty ≠ 9 ∧ ty ≠ 11 ∧ ty ≠ 13 ∧ ty ≠ 14 ∧ ty ≠ 15 ∧ ty ≠ 16 ∧ ty ≠ 17 ∧ ty ≠ 18 ∧ ty ≠ 20) : W .t (.nd 74 (tFs ty none none none none num none fmt none none none none none none brk none false [])) :=
  .t ty none none none none num none fmt none none none none none none brk none false [] h1 h2 (by unfold tyOK; simp; omega)
    nW nW nW nW nW nW nW nW nW nW nW nW (by decide) mW
end Go.Proofs.YtghcggagpagfoaaGreatDoor

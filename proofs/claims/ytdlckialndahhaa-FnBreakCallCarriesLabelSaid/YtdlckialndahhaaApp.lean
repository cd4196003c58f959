/-
  Contract of the seat n001_78: the compiler's append.
-/
import Derived.Test.YtdlckialndahhaaLook
namespace Go.Proofs.Ytdlckialndahhaa
set_option linter.unusedVariables false
set_option linter.unusedSimpArgs false
open Go.ChangeShapes Go.WideShapes Go.ChangeAt Go.RowKit M
/-- The compiler's codes: the pointers qs, in a row of their own from block B on. -/
def Cod (w : World) (B c : Nat) (qs : List Nat) : Prop :=
  ∃ (cc : Array Value) (A : Option Addr) (cap : Nat), Row w c 82 cc ∧ cc[5]? = some (.slice A qs.length cap) ∧ B ≤ c ∧ w.ownsRow B 89 1 (.slice A qs.length cap) qs.length (qs.map ptr)
/-- Every block that is neither a compiler nor a row of codes is as it was. -/
def KeepC (w w' : World) : Prop := ∀ (g : Nat) (t : TypeId) (cs : Array Value), Row w g t cs → t ≠ 82 → t ≠ 89 → Row w' g t cs
theorem cptr_info : (Try.prog.info? 89).map (fun i => (i.zero, i.size, i.bytes)) = some (some (.pointer none), 1, 8) := by kernel_rfl
theorem own_apart {w : World} {b e s n b' e' s' n' : Nat} {v v' : Value} {xs xs' : List Value} (h : w.ownsRow b e s v n xs) (h' : w.ownsRow b' e' s' v' n' xs') (hne : e ≠ e') : ∀ k, v.ownBlock = some k → v'.ownBlock ≠ some k := by
  rcases h.2 with ⟨rfl, _⟩ | ⟨g', cap, cur, rfl, _, hg, _⟩
  · intro k hk; cases hk
  · intro k hk
    obtain rfl : g' = k := by simpa [Value.ownBlock] using hk
    exact own_ne h' (show Row w g' e cur from hg) (Ne.symm hne)
theorem append_end {w w3 : World} {B c s p q g2 cap2 cap : Nat} {ns : List ByteArray} {qs : List Nat} {cc : Array Value} {A : Option Addr} (H : Cmp w B c s p ns)
    (hr : Row w c 82 cc) (h5 : cc[5]? = some (.slice A qs.length cap)) (hBc : B ≤ c) (ho : w.ownsRow B 89 1 (.slice A qs.length cap) qs.length (qs.map ptr)) (hB : B ≤ w.heap.size)
    (hd : Row w3 c 82 cc) (hown : w3.ownsRow B 89 1 (.slice (some ⟨g2, 0, none⟩) (qs.length + 1) cap2) (qs.length + 1) (qs.map ptr ++ [ptr q]))
    (hgrow : (w.alloc (.cells #[.pointer (some ⟨q, 0, none⟩)] 89)).grownBy w3 (Value.slice A qs.length cap).ownBlock) :
    Cmp (w3.setCell ⟨c, 5, none⟩ (.slice (some ⟨g2, 0, none⟩) (qs.length + 1) cap2)) B c s p ns ∧ Cod (w3.setCell ⟨c, 5, none⟩ (.slice (some ⟨g2, 0, none⟩) (qs.length + 1) cap2)) B c (qs ++ [q]) ∧
    Below B w (w3.setCell ⟨c, 5, none⟩ (.slice (some ⟨g2, 0, none⟩) (qs.length + 1) cap2)) ∧ KeepC w (w3.setCell ⟨c, 5, none⟩ (.slice (some ⟨g2, 0, none⟩) (qs.length + 1) cap2)) := by
  obtain ⟨cc', A', cap', qs', fv, hc, hc8, hs, hp, hBp, hql, ho', hq⟩ := H
  have hcc : cc = cc' := by
    unfold Row at hr hc
    rw [hr] at hc
    injection hc with hc
    injection hc
  subst hcc
  have t3 : Touch (fun k => k = c ∨ (Value.slice A qs.length cap).ownBlock = some k) w w3 := ((Touch.refl _ w).alloc _).grown hgrow (fun k hk _ => .inr hk)
  have tf := t3.setCell (p := ⟨c, 5, none⟩) (fun _ => .inl rfl) (.slice (some ⟨g2, 0, none⟩) (qs.length + 1) cap2)
  have keep : KeepC w (w3.setCell ⟨c, 5, none⟩ (.slice (some ⟨g2, 0, none⟩) (qs.length + 1) cap2)) := by
    intro g t cs hrow h1 h2
    refine hrow.touch tf ?_
    rintro (rfl | h)
    · exact Row.ne_ hrow hr h1 rfl
    · exact own_ne ho hrow (Ne.symm h2) h
  have ap := own_apart ho' ho (by decide)
  have z5 : 5 < cc.size := (Array.getElem?_eq_some_iff.1 h5).1
  refine ⟨⟨_, A', cap', qs', fv, hd.put 5 _, ?_, keep _ _ _ hs (by decide) (by decide), keep _ _ _ hp (by decide) (by decide), hBp, hql, own_touch ho' tf ?_, fun i k n h1 h2 => keep _ _ _ (hq i k n h1 h2) (by decide) (by decide)⟩, ⟨_, some ⟨g2, 0, none⟩, cap2, hd.put 5 _, ?_, hBc, ?_⟩, ?_, keep⟩
  · rw [Array.getElem?_setIfInBounds, if_neg (by decide)]
    exact hc8
  · rintro k hk (rfl | h)
    · exact own_ne ho' hr (by decide) hk
    · exact ap k hk h
  · rw [Array.getElem?_setIfInBounds, if_pos rfl, if_pos z5]
    simp
  · have := own_touch hown ((Touch.refl (fun k => k = c) w3).setCell (p := ⟨c, 5, none⟩) (fun _ => rfl) (.slice (some ⟨g2, 0, none⟩) (qs.length + 1) cap2)) (fun k hk h => by subst h; exact own_ne hown hd (by decide) hk)
    simpa using this
  · refine tf.below hB ?_
    rintro k hk (rfl | h)
    · omega
    · have := (ho.lt k h).1
      omega
set_option maxRecDepth 100000 in
set_option maxHeartbeats 2000000 in
theorem appendCode (w : World) (B c s p q : Nat) (ns : List ByteArray) (qs : List Nat) (h : Cmp w B c s p ns) (hC : Cod w B c qs) (hn : qs.length ≤ 1048576) (hB : B ≤ w.heap.size) :
    Calls Try.prog 31 #[.pointer (some ⟨c, 0, none⟩), .pointer (some ⟨q, 0, none⟩)] w fun e w' => e = .returned (.tuple #[]) ∧ Cmp w' B c s p ns ∧ Cod w' B c (qs ++ [q]) ∧ Below B w w' ∧ KeepC w w' := by
  have H := Lib.hid h
  obtain ⟨cc, A, cap, hr, h5, hBc, ho⟩ := hC
  obtain ⟨i0, hi0, hz0, hz1, hz2⟩ := info_parts cptr_info
  have k5 := (hr.cell 5).trans h5
  have f5 := hr.free 5
  have lc := hr.lt
  have HR := Lib.hid hr
  have H5 := Lib.hid h5
  have HO := Lib.hid ho
  have HI := Lib.hid hi0
  have HZ0 := Lib.hid hz0
  have HZ1 := Lib.hid hz1
  have HZ2 := Lib.hid hz2
  clear hr h5 ho h hi0 hz0 hz1 hz2
  go_enter Try.func31, Try.ntmps31
  go_wp2_with (at_builtin; refine wpList_append_lies _ rfl (.tmp 8) (.tmp 10) 56 rfl B 89 i0 _ 1 8 Try.underlying56 HI.out HZ0.out HZ1.out HZ2.out rfl (by omega) (.slice A qs.length cap) qs.length (qs.map ptr) rfl (HO.out.alloc _) ⟨w.heap.size, 0, none⟩ 1 1 [.pointer (some ⟨q, 0, none⟩)] rfl rfl (World.news_of_block (Row.made _ _ _)) (by simp [Value.oneCell']) (by omega) (by unfold maxLen; omega) (by omega) (by simp only [World.size_alloc]; omega) _ rfl ?_; intro g2 cap2 w3 hown hgrow hat hlt3; have hne := own_ne HO.out HR.out (by decide); have d0 := (hgrow.block c (by simp; omega) (Ne.symm hne)).trans (HR.out.alloc (.cells #[.pointer (some ⟨q, 0, none⟩)] 89)); have y5 := (M.Row.cell d0 5).trans H5.out; have z5 := M.Row.free d0 5; have HD := Lib.hid d0; have HOWN := Lib.hid hown; have HGROW := Lib.hid hgrow; clear d0 hown hgrow hat)
  refine bodyPost_end (v := .tuple #[]) (by simp [results, Try.results31, go_sem]) rfl ?_
  exact ⟨rfl, append_end H.out HR.out H5.out hBc HO.out hB HD.out HOWN.out HGROW.out⟩
end Go.Proofs.Ytdlckialndahhaa

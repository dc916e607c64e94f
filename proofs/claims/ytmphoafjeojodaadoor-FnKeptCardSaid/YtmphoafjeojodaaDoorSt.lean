/- the three buffers of WrapString, together -/
import Derived.Test.YtmphoafjeojodaaDoorTo
namespace Go.Proofs.YtmphoafjeojodaaDoor
open Go.RowKit

/-- isSpace at the letters that occur -/
theorem space_any {c : Int} (hc : Alpha c) (w : World) : Calls Tryd.prog 23 #[.int .i32 c] w fun e w' => e = .returned (.bool (decide (c = 32 ∨ c = 10))) ∧ w = w' := by
  rcases hc with rfl | rfl | rfl | rfl | rfl | rfl | rfl | rfl
  all_goals
    go_enter Tryd.func23, Tryd.ntmps23
    go_wp2
    go_ret
    exact ⟨rfl, rfl⟩

/-- the three buffers, the place in the text, and that nothing that was there has turned -/
structure St (w0 w : World) (gB gW gS it : Nat) (t : ByteArray) (pos : Nat) (vB vW vS : Value) (sB sW sS : ByteArray) : Prop where
  b : Buf w w0.heap.size gB vB sB
  k : Buf w w0.heap.size gW vW sW
  s : Buf w w0.heap.size gS vS sS
  d1 : Apart vB vW
  d2 : Apart vB vS
  d3 : Apart vW vS
  n1 : gB ≠ gW
  n2 : gB ≠ gS
  n3 : gW ≠ gS
  m1 : w0.heap.size ≤ gB
  m2 : w0.heap.size ≤ gW
  m3 : w0.heap.size ≤ gS
  iter : w.heap[it]? = some (.stringIter t pos)
  below : Below w0.heap.size w0 w

theorem iter_kept {w w' : World} {B g it : Nat} {v v' : Value} {s t : ByteArray} {pos : Nat} (hi : w.heap[it]? = some (.stringIter t pos)) (h : Buf w B g v s) (ht : Touch w w' g v v') : w'.heap[it]? = some (.stringIter t pos) := by
  rw [ht.block it (lt_of_block hi) (fun e => ?_) (fun e => ?_)]
  · exact hi
  · subst e; rw [h.1] at hi; simp at hi
  · obtain ⟨_, _, c, hc⟩ := h.row e.symm
    rw [hc] at hi
    simp at hi

section
variable {w0 w w' : World} {gB gW gS it : Nat} {t : ByteArray} {pos : Nat} {vB vW vS v' : Value} {sB sW sS s' : ByteArray}

theorem St.stepB (h : St w0 w gB gW gS it t pos vB vW vS sB sW sS) (hb : Buf w' w0.heap.size gB v' s') (ht : Touch w w' gB vB v') : St w0 w' gB gW gS it t pos v' vW vS s' sW sS :=
  ⟨hb, h.k.kept h.b ht (Ne.symm h.n1) h.d1.symm, h.s.kept h.b ht (Ne.symm h.n2) h.d2.symm, (Apart.kept h.k ht h.d1.symm).symm, (Apart.kept h.s ht h.d2.symm).symm, h.d3, h.n1, h.n2, h.n3, h.m1, h.m2, h.m3,
    iter_kept h.iter h.b ht, h.below.trans (ht.below h.m1 (fun _ hk => (h.b.row hk).1) h.below.size)⟩
theorem St.stepW (h : St w0 w gB gW gS it t pos vB vW vS sB sW sS) (hb : Buf w' w0.heap.size gW v' s') (ht : Touch w w' gW vW v') : St w0 w' gB gW gS it t pos vB v' vS sB s' sS :=
  ⟨h.b.kept h.k ht h.n1 h.d1, hb, h.s.kept h.k ht (Ne.symm h.n3) h.d3.symm, Apart.kept h.b ht h.d1, h.d2, (Apart.kept h.s ht h.d3.symm).symm, h.n1, h.n2, h.n3, h.m1, h.m2, h.m3,
    iter_kept h.iter h.k ht, h.below.trans (ht.below h.m2 (fun _ hk => (h.k.row hk).1) h.below.size)⟩
theorem St.stepS (h : St w0 w gB gW gS it t pos vB vW vS sB sW sS) (hb : Buf w' w0.heap.size gS v' s') (ht : Touch w w' gS vS v') : St w0 w' gB gW gS it t pos vB vW v' sB sW s' :=
  ⟨h.b.kept h.s ht h.n2 h.d2, h.k.kept h.s ht h.n3 h.d3, hb, h.d1, Apart.kept h.b ht h.d2, Apart.kept h.k ht h.d3, h.n1, h.n2, h.n3, h.m1, h.m2, h.m3,
    iter_kept h.iter h.s ht, h.below.trans (ht.below h.m3 (fun _ hk => (h.s.row hk).1) h.below.size)⟩

theorem St.resetS (h : St w0 w gB gW gS it t pos vB vW vS sB sW sS) : Calls Tryd.prog 21 #[.pointer (some ⟨gS, 0, none⟩)] w fun e w' => e = .returned (.tuple #[]) ∧ ∃ v', St w0 w' gB gW gS it t pos vB vW v' sB sW ByteArray.empty :=
  (reset_any h.s).mono fun _ _ ⟨he, v', hb, ht⟩ => ⟨he, v', h.stepS hb ht⟩
theorem St.resetW (h : St w0 w gB gW gS it t pos vB vW vS sB sW sS) : Calls Tryd.prog 21 #[.pointer (some ⟨gW, 0, none⟩)] w fun e w' => e = .returned (.tuple #[]) ∧ ∃ v', St w0 w' gB gW gS it t pos vB v' vS sB ByteArray.empty sS :=
  (reset_any h.k).mono fun _ _ ⟨he, v', hb, ht⟩ => ⟨he, v', h.stepW hb ht⟩
theorem St.runeB (h : St w0 w gB gW gS it t pos vB vW vS sB sW sS) {r : Int} (hr : Alpha r) (hs : sB.size ≤ 1000000) : Calls Tryd.prog 22 #[.pointer (some ⟨gB, 0, none⟩), .int .i32 r] w fun e w' => e = .returned (.tuple #[]) ∧ ∃ v', St w0 w' gB gW gS it t pos v' vW vS (sB ++ Utf8.encode r) sW sS :=
  (rune_any hr h.b hs h.below.size).mono fun _ _ ⟨he, v', hb, ht⟩ => ⟨he, v', h.stepB hb ht⟩
theorem St.runeW (h : St w0 w gB gW gS it t pos vB vW vS sB sW sS) {r : Int} (hr : Alpha r) (hs : sW.size ≤ 1000000) : Calls Tryd.prog 22 #[.pointer (some ⟨gW, 0, none⟩), .int .i32 r] w fun e w' => e = .returned (.tuple #[]) ∧ ∃ v', St w0 w' gB gW gS it t pos vB v' vS sB (sW ++ Utf8.encode r) sS :=
  (rune_any hr h.k hs h.below.size).mono fun _ _ ⟨he, v', hb, ht⟩ => ⟨he, v', h.stepW hb ht⟩
theorem St.runeS (h : St w0 w gB gW gS it t pos vB vW vS sB sW sS) {r : Int} (hr : Alpha r) (hs : sS.size ≤ 1000000) : Calls Tryd.prog 22 #[.pointer (some ⟨gS, 0, none⟩), .int .i32 r] w fun e w' => e = .returned (.tuple #[]) ∧ ∃ v', St w0 w' gB gW gS it t pos vB vW v' sB sW (sS ++ Utf8.encode r) :=
  (rune_any hr h.s hs h.below.size).mono fun _ _ ⟨he, v', hb, ht⟩ => ⟨he, v', h.stepS hb ht⟩
theorem St.toS (h : St w0 w gB gW gS it t pos vB vW vS sB sW sS) (hs : sS.size ≤ 1000000) (hb : sB.size ≤ 1000000) : Calls Tryd.prog 20 #[.pointer (some ⟨gS, 0, none⟩), .pointer (some ⟨gB, 0, none⟩)] w fun e w' => e = .returned (.tuple #[]) ∧ ∃ v' v'', St w0 w' gB gW gS it t pos v' vW v'' (sB ++ sS) sW ByteArray.empty :=
  (to_any h.s h.b (Ne.symm h.n2) h.d2.symm hs hb h.below.size).mono fun _ _ ⟨he, _, v1, v2, hb1, ht1, hb2, ht2⟩ => ⟨he, v2, v1, (h.stepB hb1 ht1).stepS hb2 ht2⟩
theorem St.toW (h : St w0 w gB gW gS it t pos vB vW vS sB sW sS) (hs : sW.size ≤ 1000000) (hb : sB.size ≤ 1000000) : Calls Tryd.prog 20 #[.pointer (some ⟨gW, 0, none⟩), .pointer (some ⟨gB, 0, none⟩)] w fun e w' => e = .returned (.tuple #[]) ∧ ∃ v' v'', St w0 w' gB gW gS it t pos v' v'' vS (sB ++ sW) ByteArray.empty sS :=
  (to_any h.k h.b (Ne.symm h.n1) h.d1.symm hs hb h.below.size).mono fun _ _ ⟨he, _, v1, v2, hb1, ht1, hb2, ht2⟩ => ⟨he, v2, v1, (h.stepB hb1 ht1).stepW hb2 ht2⟩
end
end Go.Proofs.YtmphoafjeojodaaDoor

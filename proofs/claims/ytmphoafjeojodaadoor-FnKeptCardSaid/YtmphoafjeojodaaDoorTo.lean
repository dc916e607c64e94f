/- (*Buffer).WriteTo -/
import Derived.Test.YtmphoafjeojodaaDoorAp
import Derived.Maps.AppendAt
import Derived.Deep.RegionLaw
import Derived.BigRegion
import Derived.RegionTactic
namespace Go.Proofs.YtmphoafjeojodaaDoor
open Go.RowKit

theorem oneCell_cellsOf (s : ByteArray) : ∀ u ∈ cellsOf s, u.oneCell' = true := by
  intro u hu
  unfold cellsOf at hu
  rw [List.mem_map] at hu
  obtain ⟨n, _, rfl⟩ := hu
  rfl

/-- behind 'b.b = b.b[:0]' -/
theorem reset_buf {w : World} {B g n cap : Nat} {ao : Option Addr} {s : ByteArray} (h : Buf w B g (.slice ao n cap) s) :
    Buf (w.setCell ⟨g, 0, none⟩ (.slice ao 0 cap)) B g (.slice ao 0 cap) ByteArray.empty ∧ Touch w (w.setCell ⟨g, 0, none⟩ (.slice ao 0 cap)) g (.slice ao n cap) (.slice ao 0 cap) := by
  have hrow := h.row_ne h
  refine ⟨⟨one_setCell h.1, ?_⟩, ⟨rfl, rfl, rfl, by simp, fun k hk hg _ => Below.heap_setCell _ _ _ _ hg, .inr (.inl ?_)⟩⟩
  · obtain ⟨_, q1, q2⟩ := h
    have hb : (bytesOf ByteArray.empty).map (Value.int .u8) = [] := rfl
    rw [hb]
    refine ⟨rfl, ?_⟩
    rcases q2 with ⟨q2, q3⟩ | ⟨k, cap', cur, q2, q4, q5, q6, q7, q8, q9⟩
    · simp only [Value.slice.injEq] at q2
      obtain ⟨rfl, _, rfl⟩ := q2
      exact .inl ⟨rfl, rfl⟩
    · simp only [Value.slice.injEq] at q2
      obtain ⟨rfl, rfl, rfl⟩ := q2
      refine .inr ⟨k, cap, cur, rfl, q4, ?_, Nat.zero_le _, q7, q8, by simp [ByteArray.size]⟩
      rw [Below.heap_setCell _ _ _ _ (fun e => hrow (by simp [Value.ownBlock, e]))]
      exact q5
  · cases ao <;> rfl

theorem append_buf {w : World} {B : Nat} {v1 v2 : Value} {s1 s2 : ByteArray} (h1 : w.ownsRow B 5 1 v1 s1.size (cellsOf s1)) (h2 : w.ownsRow B 5 1 v2 s2.size (cellsOf s2))
    (hs1 : s1.size ≤ 1000000) (hs2 : s2.size ≤ 1000000) (hB : B ≤ w.heap.size) :
    ∃ v' w', (Builtin.append_ #[22, 22] 22 #[v2, v1]).run Tryd.prog w = .ok v' w' ∧ w'.ownsRow B 5 1 v' (s2 ++ s1).size (cellsOf (s2 ++ s1)) ∧ ∀ g, Touch w w' g v2 v' := by
  obtain ⟨i0, hi, hz0, hz1, hz2⟩ := info_parts info5
  rcases h1.2 with ⟨rfl, h3⟩ | ⟨k, cap, cur, rfl, h4, h5, h6, h7, h8, h9⟩
  · have hs : s1 = ByteArray.empty := ByteArray.size_eq_zero_iff.1 h3
    subst hs
    refine ⟨v2, w, run_append_owned_none (P := Tryd.prog) w B 22 22 5 i0 1 Tryd.underlying22 hi v2 s2.size (cellsOf s2) h2, by simpa using h2, fun g => ⟨rfl, rfl, rfl, Nat.le_refl _, fun _ _ _ _ => rfl, .inr (.inl rfl)⟩⟩
  · obtain ⟨v', w', hr, q1, q2, _, q4⟩ := run_append_own_at (P := Tryd.prog) w B 22 22 5 i0 (.int .u8 0) 1 1 Tryd.underlying22 hi hz0 hz1 hz2 rfl (by decide) v2 s2.size (cellsOf s2) h2
      ⟨k, 0, none⟩ s1.size cap (cellsOf s1) (by rw [cellsOf_length]; omega) (h1.cells rfl) (oneCell_cellsOf s1) (by unfold maxLen; omega) (by omega) hB
    refine ⟨v', w', hr, ?_, touch_of_grown q2 rfl rfl rfl (Nat.le_refl _) (fun _ _ => rfl) q4⟩
    rw [ByteArray.size_append, cellsOf_append]
    exact q1

/-- a step of a region: an append whose run is known -/
theorem step_append_run {ops : Array Oper} {o : Oper} {a : Act} {w : World} {K : Act → World → Prop} {Q : Exit → Act → World → Prop} {E : Prop} (hgd : o.guard = none) (s x : Operand)
    (ho : o.op = .call { callee := .builtin .append, args := #[s, x], argTypes := #[22, 22] }) (hty : o.type = 22) (v2 v1 : Value) (hs : a.eval s = v2) (hx : a.eval x = v1) (v' : Value) (w' : World)
    (hr : (Builtin.append_ #[22, 22] 22 #[v2, v1]).run Tryd.prog w = .ok v' w') (h : K (a.put o.dst v') w') : if Region.wanted o (yielded ops a.tmps) = true then Oper.wp Tryd.prog o a w K Q else E := by
  have hw : Region.wanted o (yielded ops a.tmps) = true := by simp [Region.wanted, hgd]
  rw [if_pos hw]
  unfold Oper.wp execOp
  simp only [ho, hty, resolve, invoke, builtin, Sem.run_bind, Sem.run_pure, Result.andThen_ok, List.map_toArray, List.map_cons, List.map_nil, hs, hx, hr]
  exact h

set_option maxRecDepth 100000 in
set_option maxHeartbeats 800000 in
theorem to_any {w : World} {B g1 g2 : Nat} {v1 v2 : Value} {s1 s2 : ByteArray} (h1 : Buf w B g1 v1 s1) (h2 : Buf w B g2 v2 s2) (hg : g1 ≠ g2) (ha : Apart v1 v2)
    (hs1 : s1.size ≤ 1000000) (hs2 : s2.size ≤ 1000000) (hB : B ≤ w.heap.size) :
    Calls Tryd.prog 20 #[.pointer (some ⟨g1, 0, none⟩), .pointer (some ⟨g2, 0, none⟩)] w fun e w' => e = .returned (.tuple #[]) ∧ ∃ wm v1' v2', Buf wm B g2 v2' (s2 ++ s1) ∧ Touch w wm g2 v2 v2' ∧
      Buf w' B g1 v1' ByteArray.empty ∧ Touch wm w' g1 v1 v1' := by
  have h1d : Buf w.drew B g1 v1 s1 := h1
  have h2d : Buf w.drew B g2 v2 s2 := h2
  obtain ⟨v', wa, hr, hown, ht⟩ := append_buf (w := w.drew) h1d.2 h2d.2 hs1 hs2 hB
  have hc1 := h1.cell
  have hc2 := h2.cell
  have hrow := h2d.row_ne h2d
  have hg2 : wa.heap[g2]? = some (.cells #[v2] 51 (0, 0)) := by rw [(ht (g2 + 1)).block g2 (lt_of_block h2d.1) (by omega) (fun e => hrow e.symm)]; exact h2d.1
  have hca := cell_of_one hg2
  have hfa := free_of_one hg2
  have hk0c := (h1d.kept h2d (ht g2) hg ha).cell
  obtain ⟨ao, cap, rfl⟩ := own_shape hown
  have hfin := store_buf h2d hown (ht g2) hg2
  have hk1 := h1d.kept h2d hfin.2 hg ha
  have hk1c := hk1.cell
  have hk1f := hk1.free
  rw [ByteArray.size_append] at hr hfin hk1c hk1f
  obtain ⟨ao1, cap1, rfl, _⟩ := h1.shape
  have hz := slice_zero ao1 s1.size cap1
  clear hown ht hg2 hrow
  go_enter Tryd.func20, Tryd.ntmps20
  go_wp2
  go_region_law (refine step_append_run rfl _ _ rfl rfl v2 (.slice ao1 s1.size cap1) rfl rfl _ _ hr ?_)
  all_goals
    go_wp2
    go_end0
    have hk1' := hk1
    rw [ByteArray.size_append] at hk1'
    have hres := reset_buf hk1'
    exact ⟨rfl, _, .slice ao1 0 cap1, _, hfin.1, ⟨hfin.2.os, hfin.2.tape, hfin.2.output, hfin.2.size, hfin.2.block, hfin.2.row⟩, hres.1, hres.2⟩
end Go.Proofs.YtmphoafjeojodaaDoor

/- utf8.AppendRune at the letters that occur -/
import Derived.Test.YtmphoafjeojodaaDoorBf
namespace Go.Proofs.YtmphoafjeojodaaDoor
open Go.RowKit

/-- the bytes of s, as cells -/
def cellsOf (s : ByteArray) : List Value := (bytesOf s).map (Value.int .u8)
theorem cellsOf_append (a b : ByteArray) : cellsOf (a ++ b) = cellsOf a ++ cellsOf b := by unfold cellsOf; rw [bytesOf_append, List.map_append]
theorem cellsOf_length (s : ByteArray) : (cellsOf s).length = s.size := by unfold cellsOf; rw [List.length_map, bytesOf_length]

theorem touch_of_grown {w wx w' : World} {v v' : Value} (hg : wx.grownBy w' v.ownBlock) (ho : wx.os = w.os) (ht : wx.tape = w.tape) (hp : wx.output = w.output) (hs : w.heap.size ≤ wx.heap.size) (hb : ∀ k, k < w.heap.size → wx.heap[k]? = w.heap[k]?)
    (hr : v'.ownBlock = v.ownBlock ∨ v'.ownBlock = some wx.heap.size) (g : Nat) : Touch w w' g v v' :=
  ⟨hg.os.trans ho, hg.tape.trans ht, hg.output.trans hp, Nat.le_trans hs hg.size, fun k hk _ hne => (hg.block k (by omega) hne).trans (hb k hk),
    hr.elim (fun h => .inr (.inl h)) (fun h => .inr (.inr ⟨_, h, hs⟩))⟩

set_option maxRecDepth 100000 in
theorem append_ascii {w : World} {B : Nat} {v : Value} {s : ByteArray} (r : Int) (h0 : 0 ≤ r) (h1 : r ≤ 127) (hown : w.ownsRow B 5 1 v s.size (cellsOf s)) (hs : s.size ≤ 1000000) (hB : B ≤ w.heap.size) (m : ByteArray) (hm : cellsOf m = [.int .u8 r]) :
    Calls Tryd.prog 30 #[v, .int .i32 r] w fun e w' => ∃ v', e = .returned v' ∧ w'.ownsRow B 5 1 v' (s ++ m).size (cellsOf (s ++ m)) ∧ ∀ g, Touch w w' g v v' := by
  obtain ⟨i0, hi, hz0, hz1, hz2⟩ := info_parts info5
  have hw1 : IntKind.u8.wrap r = r := IntWalk.u8_in _ (by omega)
  go_enter Tryd.func30, Tryd.ntmps30
  go_wp2_with (at_builtin; refine wpList_append_lies _ rfl _ _ 22 rfl B 5 i0 (.int .u8 0) 1 1 Tryd.underlying22 hi hz0 hz1 hz2 rfl (by decide) _ _ _ rfl (hown.alloc _) ⟨w.heap.size, 0, none⟩ 1 1 [.int .u8 r] rfl rfl ?c1 ?c2 (by omega) ?c3 ?c4 ?c5 (w.heap.size + 1) ?c6 ?_)
  case c1 =>
    intro j u hu
    match j, hu with
    | 0, hu => simp at hu; subst hu; simp [Addr.add]
  case c2 => intro u hu; simp at hu; subst hu; rfl
  case c3 => unfold maxLen; omega
  case c4 => omega
  case c5 => simp; omega
  case c6 => simp
  intro g cap w' hown' hgrow hat hlt
  go_wp2
  go_ret
  have hms : m.size = 1 := by have := cellsOf_length m; rw [hm] at this; simpa using this.symm
  refine ⟨_, rfl, ?_, touch_of_grown hgrow rfl rfl rfl (by simp) (fun k hk => Below.heap_alloc _ _ _ hk) ?_⟩
  · rw [ByteArray.size_append, hms, cellsOf_append, hm]
    exact hown'
  · rcases hat with h | h
    · exact .inl (by rw [h]; rfl)
    · exact .inr (by simp [Value.ownBlock, h])
set_option maxRecDepth 100000 in
theorem append_233 {w : World} {B : Nat} {v : Value} {s : ByteArray} (hown : w.ownsRow B 5 1 v s.size (cellsOf s)) (hs : s.size ≤ 1000000) (hB : B ≤ w.heap.size) :
    Calls Tryd.prog 30 #[v, .int .i32 233] w fun e w' => ∃ v', e = .returned v' ∧ w'.ownsRow B 5 1 v' (s ++ ⟨#[195, 169]⟩).size (cellsOf (s ++ ⟨#[195, 169]⟩)) ∧ ∀ g, Touch w w' g v v' := by
  obtain ⟨i0, hi, hz0, hz1, hz2⟩ := info_parts info5
  go_enter Tryd.func30, Tryd.ntmps30
  go_wp2_with (first | (go_at_call 36; go_in) | (at_builtin; refine wpList_append_lies _ rfl _ _ 22 rfl B 5 i0 (.int .u8 0) 1 1 Tryd.underlying22 hi hz0 hz1 hz2 rfl (by decide) _ _ _ rfl (hown.alloc _) ⟨w.heap.size, 0, none⟩ 2 2 [.int .u8 195, .int .u8 169] rfl rfl ?c1 ?c2 (by omega) ?c3 ?c4 ?c5 (w.heap.size + 1) ?c6 ?_))
  case c1 =>
    intro j u hu
    match j, hu with
    | 0, hu => simp at hu; subst hu; simp [Addr.add]
    | 1, hu => simp at hu; subst hu; simp [Addr.add]
  case c2 => intro u hu; simp at hu; rcases hu with rfl | rfl <;> rfl
  case c3 => unfold maxLen; omega
  case c4 => omega
  case c5 => simp; omega
  case c6 => simp
  intro g cap w' hown' hgrow hat hlt
  go_wp2
  go_ret
  refine ⟨_, rfl, ?_, touch_of_grown hgrow rfl rfl rfl (by simp) (fun k hk => Below.heap_alloc _ _ _ hk) ?_⟩
  · rw [ByteArray.size_append, cellsOf_append]
    exact hown'
  · rcases hat with h | h
    · exact .inl (by rw [h]; rfl)
    · exact .inr (by simp [Value.ownBlock, h])
set_option maxRecDepth 100000 in
theorem append_26085 {w : World} {B : Nat} {v : Value} {s : ByteArray} (hown : w.ownsRow B 5 1 v s.size (cellsOf s)) (hs : s.size ≤ 1000000) (hB : B ≤ w.heap.size) :
    Calls Tryd.prog 30 #[v, .int .i32 26085] w fun e w' => ∃ v', e = .returned v' ∧ w'.ownsRow B 5 1 v' (s ++ ⟨#[230, 151, 165]⟩).size (cellsOf (s ++ ⟨#[230, 151, 165]⟩)) ∧ ∀ g, Touch w w' g v v' := by
  obtain ⟨i0, hi, hz0, hz1, hz2⟩ := info_parts info5
  go_enter Tryd.func30, Tryd.ntmps30
  go_wp2_with (first | (go_at_call 36; go_in) | (at_builtin; refine wpList_append_lies _ rfl _ _ 22 rfl B 5 i0 (.int .u8 0) 1 1 Tryd.underlying22 hi hz0 hz1 hz2 rfl (by decide) _ _ _ rfl (hown.alloc _) ⟨w.heap.size, 0, none⟩ 3 3 [.int .u8 230, .int .u8 151, .int .u8 165] rfl rfl ?c1 ?c2 (by omega) ?c3 ?c4 ?c5 (w.heap.size + 1) ?c6 ?_))
  case c1 =>
    intro j u hu
    match j, hu with
    | 0, hu => simp at hu; subst hu; simp [Addr.add]
    | 1, hu => simp at hu; subst hu; simp [Addr.add]
    | 2, hu => simp at hu; subst hu; simp [Addr.add]
  case c2 => intro u hu; simp at hu; rcases hu with rfl | rfl | rfl <;> rfl
  case c3 => unfold maxLen; omega
  case c4 => omega
  case c5 => simp; omega
  case c6 => simp
  intro g cap w' hown' hgrow hat hlt
  go_wp2
  go_ret
  refine ⟨_, rfl, ?_, touch_of_grown hgrow rfl rfl rfl (by simp) (fun k hk => Below.heap_alloc _ _ _ hk) ?_⟩
  · rw [ByteArray.size_append, cellsOf_append]
    exact hown'
  · rcases hat with h | h
    · exact .inl (by rw [h]; rfl)
    · exact .inr (by simp [Value.ownBlock, h])
theorem append_alpha {w : World} {B : Nat} {v : Value} {s : ByteArray} {r : Int} (hr : Alpha r) (hown : w.ownsRow B 5 1 v s.size (cellsOf s)) (hs : s.size ≤ 1000000) (hB : B ≤ w.heap.size) :
    Calls Tryd.prog 30 #[v, .int .i32 r] w fun e w' => ∃ v', e = .returned v' ∧ w'.ownsRow B 5 1 v' (s ++ Utf8.encode r).size (cellsOf (s ++ Utf8.encode r)) ∧ ∀ g, Touch w w' g v v' := by
  rcases hr with rfl | rfl | rfl | rfl | rfl | rfl | rfl | rfl
  · exact append_ascii 97 (by omega) (by omega) hown hs hB _ rfl
  · exact append_ascii 98 (by omega) (by omega) hown hs hB _ rfl
  · exact append_ascii 99 (by omega) (by omega) hown hs hB _ rfl
  · exact append_ascii 100 (by omega) (by omega) hown hs hB _ rfl
  · have e : Utf8.encode 233 = ⟨#[195, 169]⟩ := by decide
    rw [e]; exact append_233 hown hs hB
  · have e : Utf8.encode 26085 = ⟨#[230, 151, 165]⟩ := by decide
    rw [e]; exact append_26085 hown hs hB
  · exact append_ascii 32 (by omega) (by omega) hown hs hB _ rfl
  · exact append_ascii 10 (by omega) (by omega) hown hs hB _ rfl

theorem own_shape {w : World} {B n : Nat} {v : Value} {xs : List Value} (h : w.ownsRow B 5 1 v n xs) : ∃ ao cap, v = .slice ao n cap := by
  rcases h.2 with ⟨rfl, h3⟩ | ⟨k, cap, cur, rfl, _⟩
  · exact ⟨none, 0, by rw [h3]⟩
  · exact ⟨_, cap, rfl⟩

/-- behind a store of the new slice into the buffer's block -/
theorem store_buf {w w1 : World} {B g : Nat} {v v' : Value} {s s' : ByteArray} (h : Buf w B g v s) (hown : w1.ownsRow B 5 1 v' s'.size (cellsOf s')) (ht : Touch w w1 g v v')
    (hg1 : w1.heap[g]? = some (.cells #[v] 51 (0, 0))) : Buf (w1.setCell ⟨g, 0, none⟩ v') B g v' s' ∧ Touch w (w1.setCell ⟨g, 0, none⟩ v') g v v' := by
  refine ⟨⟨one_setCell hg1, ?_⟩, ⟨ht.os, ht.tape, ht.output, by simpa using ht.size, fun k hk hne hne2 => ?_, ht.row⟩⟩
  · refine ownsRow_setCell_other hown (fun e => ?_) _
    rcases hown.2 with ⟨rfl, _⟩ | ⟨k, cap, cur, rfl, _, h5, _⟩
    · cases e
    · simp only [Value.ownBlock, Option.some.injEq] at e
      subst e
      rw [hg1] at h5
      simp at h5
  · rw [Below.heap_setCell _ _ _ _ hne]
    exact ht.block k hk hne hne2

set_option maxRecDepth 100000 in
theorem rune_any {w : World} {B g : Nat} {v : Value} {s : ByteArray} {r : Int} (hr : Alpha r) (h : Buf w B g v s) (hs : s.size ≤ 1000000) (hB : B ≤ w.heap.size) :
    Calls Tryd.prog 22 #[.pointer (some ⟨g, 0, none⟩), .int .i32 r] w fun e w' => e = .returned (.tuple #[]) ∧ ∃ v', Buf w' B g v' (s ++ Utf8.encode r) ∧ Touch w w' g v v' := by
  have hc := h.cell
  have hgl := lt_of_block h.1
  have hrow := h.row_ne h
  go_enter Tryd.func22, Tryd.ntmps22
  go_wp2_with fail
  refine (append_alpha hr h.2 hs hB).mono ?_
  rintro e w1 ⟨v', rfl, hown, ht⟩
  have hg1 : w1.heap[g]? = some (.cells #[v] 51 (0, 0)) := by rw [(ht (g + 1)).block g hgl (by omega) (fun e => hrow e.symm)]; exact h.1
  have hc1 := cell_of_one hg1
  have hf1 := free_of_one hg1
  obtain ⟨ao, cap, rfl⟩ := own_shape hown
  have hfin := store_buf h hown (ht g) hg1
  rw [ByteArray.size_append] at hfin
  clear hc h hown ht hg1 hrow
  go_wp2
  go_end0
  exact ⟨rfl, _, hfin⟩
end Go.Proofs.YtmphoafjeojodaaDoor

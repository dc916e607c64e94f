/- the plain buffer of package wordwrap: its methods -/
import Derived.Test.YtmphoafjeojodaaDoorU
import Derived.Laws.BytesArg
import Derived.Lib.OthersKept
import Derived.Deep.RegionHeld3
import Derived.Deep.AppendLies
namespace Go.Proofs.YtmphoafjeojodaaDoor
open Go.RowKit

theorem info5 : (Tryd.prog.info? 5).map (fun i => (i.zero, i.size, i.bytes)) = some (some (.int .u8 0), 1, 1) := by kernel_rfl

def bytesOf (s : ByteArray) : List Int := s.data.toList.map fun b => (b.toNat : Int)
theorem bytesOf_append (a b : ByteArray) : bytesOf (a ++ b) = bytesOf a ++ bytesOf b := by
  unfold bytesOf
  rw [ByteArray.data_append]
  simp
theorem bytesOf_length (s : ByteArray) : (bytesOf s).length = s.size := by
  unfold bytesOf
  simp
theorem strOfNums_bytesOf (s : ByteArray) : strOfNums (bytesOf s) = s := by
  unfold strOfNums bytesOf
  cases s with | mk d =>
  congr 1
  apply Array.ext'
  simp [Function.comp_def]

/-- a buffer in block g: its slice v owns the bytes of s -/
def Buf (w : World) (B g : Nat) (v : Value) (s : ByteArray) : Prop :=
  w.heap[g]? = some (.cells #[v] 51 (0, 0)) ∧ w.ownsRow B 5 1 v s.size ((bytesOf s).map (Value.int .u8))

theorem Buf.shape {w : World} {B g : Nat} {v : Value} {s : ByteArray} (h : Buf w B g v s) : ∃ ao cap, v = .slice ao s.size cap ∧ s.size ≤ cap ∧ cap ≤ maxLen ∧ ((ao = none ∧ s.size = 0 ∧ cap = 0) ∨ ∃ k, ao = some ⟨k, 0, none⟩ ∧ B ≤ k ∧ k < w.heap.size) := by
  obtain ⟨_, h1, h2⟩ := h
  rcases h2 with ⟨rfl, h3⟩ | ⟨k, cap, cur, rfl, h4, h5, h6, h7, _⟩
  · exact ⟨none, 0, by rw [h3], by omega, by unfold maxLen; omega, .inl ⟨rfl, h3, rfl⟩⟩
  · refine ⟨_, cap, rfl, h6, h7, .inr ⟨k, rfl, h4, ?_⟩⟩
    exact (Array.getElem?_eq_some_iff.1 h5).1
theorem Buf.cell {w : World} {B g : Nat} {v : Value} {s : ByteArray} (h : Buf w B g v s) : w.cell? ⟨g, 0, none⟩ = some v := cell_of_one h.1
theorem Buf.free {w : World} {B g : Nat} {v : Value} {s : ByteArray} (h : Buf w B g v s) : w.frozen? ⟨g, 0, none⟩ = false := free_of_one h.1

/-- what a method of the buffer in block g, whose slice was v and is v', leaves of the rest -/
structure Touch (w w' : World) (g : Nat) (v v' : Value) : Prop where
  os : w'.os = w.os
  tape : w'.tape = w.tape
  output : w'.output = w.output
  size : w.heap.size ≤ w'.heap.size
  block : ∀ k, k < w.heap.size → k ≠ g → some k ≠ v.ownBlock → w'.heap[k]? = w.heap[k]?
  row : v'.ownBlock = none ∨ v'.ownBlock = v.ownBlock ∨ ∃ k, v'.ownBlock = some k ∧ w.heap.size ≤ k

theorem Touch.below {w w' : World} {g : Nat} {v v' : Value} (h : Touch w w' g v v') {B : Nat} (hg : B ≤ g) (hv : ∀ k, v.ownBlock = some k → B ≤ k) (hB : B ≤ w.heap.size) : Below B w w' :=
  ⟨h.os, h.tape, h.output, h.size, fun k hk => h.block k (by omega) (by omega) (fun e => by have := hv k e.symm; omega)⟩

theorem Buf.row {w : World} {B g : Nat} {v : Value} {s : ByteArray} (h : Buf w B g v s) {k : Nat} (hk : v.ownBlock = some k) : B ≤ k ∧ k < w.heap.size ∧ ∃ c, w.heap[k]? = some (.cells c 5 (0, 0)) := by
  obtain ⟨_, h1, h2⟩ := h
  rcases h2 with ⟨rfl, h3⟩ | ⟨q, cap, cur, rfl, h4, h5, _⟩
  · cases hk
  · simp only [Value.ownBlock, Option.some.injEq] at hk
    subst hk
    exact ⟨h4, lt_of_block h5, cur, h5⟩
/-- a buffer's row is no block of a buffer -/
theorem Buf.row_ne {w : World} {B g g2 : Nat} {v v2 : Value} {s s2 : ByteArray} (h : Buf w B g v s) (h2 : Buf w B g2 v2 s2) : v.ownBlock ≠ some g2 := fun e => by
  obtain ⟨_, _, c, hc⟩ := h.row e
  rw [h2.1] at hc
  simp at hc

def Apart (u v : Value) : Prop := u.ownBlock = none ∨ u.ownBlock ≠ v.ownBlock
theorem Apart.symm {u v : Value} (h : Apart u v) : Apart v u := by
  rcases h with h | h
  · by_cases e : v.ownBlock = none
    · exact .inl e
    · exact .inr (by rw [h]; exact e)
  · exact .inr (fun e => h e.symm)

/-- a method of one buffer leaves another one as it was -/
theorem Buf.kept {w w' : World} {B g g2 : Nat} {v v' v2 : Value} {s s2 : ByteArray} (h2 : Buf w B g2 v2 s2) (h : Buf w B g v s) (ht : Touch w w' g v v') (hg : g2 ≠ g) (ha : Apart v2 v) : Buf w' B g2 v2 s2 := by
  have hne := h2.row_ne h
  have hne2 := h.row_ne h2
  refine ⟨?_, ?_⟩
  · rw [ht.block g2 (lt_of_block h2.1) hg (fun e => hne2 e.symm)]; exact h2.1
  · obtain ⟨_, q1, q2⟩ := h2
    refine ⟨q1, ?_⟩
    rcases q2 with q2 | ⟨k, cap, cur, rfl, h4, h5, r⟩
    · exact .inl q2
    · refine .inr ⟨k, cap, cur, rfl, h4, ?_, r⟩
      have e1 : k ≠ g := fun e => hne (by simp [Value.ownBlock, e])
      have e2 : some k ≠ v.ownBlock := by
        rcases ha with ha | ha
        · cases ha
        · exact ha
      rw [ht.block k (lt_of_block h5) e1 e2]; exact h5
theorem Apart.kept {w w' : World} {B g g2 : Nat} {v v' v2 : Value} {s2 : ByteArray} (h2 : Buf w B g2 v2 s2) (ht : Touch w w' g v v') (ha : Apart v2 v) : Apart v2 v' := by
  rcases ht.row with h | h | ⟨k, h, hk⟩
  · by_cases e : v2.ownBlock = none
    · exact .inl e
    · exact .inr (by rw [h]; exact e)
  · unfold Apart; rw [h]; exact ha
  · cases hv : v2.ownBlock with
    | none => exact .inl hv
    | some q =>
      have := (h2.row hv).2.1
      exact .inr (by rw [h, hv]; simp; omega)

set_option maxRecDepth 100000 in
theorem len_any {w : World} {B g : Nat} {v : Value} {s : ByteArray} (h : Buf w B g v s) :
    Calls Tryd.prog 19 #[.pointer (some ⟨g, 0, none⟩)] w fun e w' => e = .returned (.int .i64 s.size) ∧ w = w' := by
  have hc := h.cell
  obtain ⟨ao, cap, rfl, _⟩ := h.shape
  go_enter Tryd.func19, Tryd.ntmps19
  go_wp2
  go_ret
  exact ⟨rfl, rfl⟩
theorem size5 (w : World) : (sizeOf (Tryd.prog.elem 22)).run Tryd.prog w = .ok 1 w := by kernel_rfl
theorem elem22 : Tryd.prog.underlying 22 = some (.slice (Tryd.prog.elem 22)) := by kernel_rfl
/-- 's[:0]' of a slice of bytes -/
theorem slice_zero (ao : Option Addr) (l c : Nat) (wx : World) :
    (Instr.slice 22 (.slice ao l c) none (some (.int .i64 0)) none).run Tryd.prog wx = .ok (.slice ao 0 c) wx := by
  rw [run_slice_h (P := Tryd.prog) wx 22 ao l c elem22 .i64 0 (by omega) (by omega), size5]
  by_cases e : c = 0
  · simp [Result.andThen, sliced, e]
  · simp [Result.andThen, sliced, e, Addr.add]

set_option maxRecDepth 100000 in
theorem reset_any {w : World} {B g : Nat} {v : Value} {s : ByteArray} (h : Buf w B g v s) :
    Calls Tryd.prog 21 #[.pointer (some ⟨g, 0, none⟩)] w fun e w' => e = .returned (.tuple #[]) ∧ ∃ v', Buf w' B g v' ByteArray.empty ∧ Touch w w' g v v' := by
  have hc := h.cell
  have hf := h.free
  have hrow := h.row_ne h
  obtain ⟨ao, cap, rfl, _⟩ := h.shape
  have hz := slice_zero ao s.size cap
  go_enter Tryd.func21, Tryd.ntmps21
  go_wp2
  go_end0
  refine ⟨rfl, .slice ao 0 cap, ⟨one_setCell h.1, ?_⟩, ⟨rfl, rfl, rfl, by simp, fun k hk hg _ => Below.heap_setCell _ _ _ _ hg, .inr (.inl ?_)⟩⟩
  · obtain ⟨_, q1, q2⟩ := h
    have hb : (bytesOf ByteArray.empty).map (Value.int .u8) = [] := rfl
    rw [hb]
    refine ⟨rfl, ?_⟩
    rcases q2 with ⟨q2, q3⟩ | ⟨k, cap', cur, q2, q4, q5, q6, q7, q8, q9⟩
    · simp only [Value.slice.injEq] at q2
      obtain ⟨rfl, _, rfl⟩ := q2
      exact .inl ⟨rfl, rfl⟩
    · simp only [Value.slice.injEq, true_and] at q2
      obtain ⟨rfl, rfl⟩ := q2
      refine .inr ⟨k, cap, cur, rfl, q4, ?_, Nat.zero_le _, q7, q8, by simp [ByteArray.size]⟩
      rw [Below.heap_setCell _ _ _ _ (fun e => hrow (by simp [Value.ownBlock, e]))]
      exact q5
  · cases ao <;> rfl

set_option maxRecDepth 100000 in
theorem string_any {w : World} {B g : Nat} {v : Value} {s : ByteArray} (h : Buf w B g v s) :
    Calls Tryd.prog 24 #[.pointer (some ⟨g, 0, none⟩)] w fun e w' => e = .returned (.string s) ∧ w = w' := by
  have hc := h.cell
  obtain ⟨_, q1, q2⟩ := h
  rcases q2 with ⟨rfl, q3⟩ | ⟨k, cap, cur, rfl, q4, q5, q6, q7, q8, q9⟩
  · have hs : s = ByteArray.empty := ByteArray.size_eq_zero_iff.1 q3
    subst hs
    have hcv := run_convert_bytes_nil (P := Tryd.prog) w 22 5 Tryd.underlying22 Tryd.underlying5 0 0 9 Tryd.underlying9
    go_enter Tryd.func24, Tryd.ntmps24
    go_wp2
    go_ret
    exact ⟨rfl, rfl⟩
  · have hown : w.ownsRow B 5 1 (.slice (some ⟨k, 0, none⟩) s.size cap) s.size ((bytesOf s).map (Value.int .u8)) := ⟨q1, .inr ⟨k, cap, cur, rfl, q4, q5, q6, q7, q8, q9⟩⟩
    have hcv := run_convert_bytes_arg (P := Tryd.prog) w 22 5 Tryd.underlying22 Tryd.underlying5 k 0 s.size cap (bytesOf s) (bytesOf_length s) (fun i hi => by
      rw [Nat.zero_add, hown.cellAt i (by omega)]
      have : i < (bytesOf s).length := by rw [bytesOf_length]; exact hi
      simp [List.getElem?_eq_getElem this]) 9 Tryd.underlying9
    rw [strOfNums_bytesOf] at hcv
    clear q1 q9 hown
    go_enter Tryd.func24, Tryd.ntmps24
    go_wp2
    go_ret
    exact ⟨rfl, rfl⟩
end Go.Proofs.YtmphoafjeojodaaDoor

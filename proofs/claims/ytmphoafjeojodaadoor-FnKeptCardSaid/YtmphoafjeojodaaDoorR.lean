/- runes of a string, rows of numbers -/
import Derived.Test.YtmphoafjeojodaaDoorA
import Derived.Laws.IdiomStrings
namespace Go.Proofs.YtmphoafjeojodaaDoor
open Go.RowKit

/-- the runes of a string, as the model's conversion gives them -/
def rv (s : ByteArray) : Array Value := Conv.runesFrom s s.size 0 #[]
/-- how many runes -/
def rl (s : ByteArray) : Nat := (rv s).size
/-- the number in a slot of 32 bits -/
def num32 : Option Value → Int | some (.int .i32 n) => n | _ => 0
/-- rune number i -/
def rn (s : ByteArray) (i : Nat) : Int := num32 (rv s)[i]?

theorem runesFrom_ints (s : ByteArray) : ∀ (bound i : Nat) (acc : Array Value), (∀ j, j < acc.size → ∃ n, acc[j]? = some (.int .i32 n)) →
    ∀ j, j < (Conv.runesFrom s bound i acc).size → ∃ n, (Conv.runesFrom s bound i acc)[j]? = some (.int .i32 n)
  | 0, i, acc, h, j, hj => by simp only [Conv.runesFrom] at hj ⊢; exact h j hj
  | bound + 1, i, acc, h, j, hj => by
    unfold Conv.runesFrom at hj ⊢
    split
    · rename_i hi
      simp only [hi, if_true] at hj
      refine runesFrom_ints s bound _ _ ?_ j hj
      intro q hq
      by_cases h1 : q < acc.size
      · obtain ⟨n, hn⟩ := h q h1
        exact ⟨n, by rw [Array.getElem?_push, if_neg (by omega)]; exact hn⟩
      · simp at hq
        exact ⟨_, by rw [Array.getElem?_push, if_pos (by omega)]⟩
    · rename_i hi
      simp only [hi, if_false] at hj
      exact h j hj

theorem rv_at (s : ByteArray) (j : Nat) (h : j < rl s) : (rv s)[j]? = some (.int .i32 (rn s j)) := by
  obtain ⟨n, hn⟩ := runesFrom_ints s s.size 0 #[] (by intro j h; simp at h) j h
  unfold rn rv
  rw [hn]; rfl

theorem rl_le (s : ByteArray) : rl s ≤ s.size := by
  have := size_runesFrom s s.size 0 #[]
  simpa [rl, rv] using this

def runeCap (w : World) (s : ByteArray) : Nat := grownCap w (rl s) 0 21
def runeBlock (w : World) (s : ByteArray) : Obj := .cells (rv s ++ Array.replicate (runeCap w s - rl s) (.int .i32 0)) 21

theorem rl_cap (w : World) (s : ByteArray) : rl s ≤ runeCap w s := grownCap_ge _ _ _ _

theorem conv_runes (s : ByteArray) (h : s.size ≤ 70368744177664) (w : World) : (convert 9 29 (.string s)).run Tryd.prog w =
    .ok (.slice (some ⟨w.heap.size, 0, none⟩) (rl s) (runeCap w s)) (w.alloc (runeBlock w s)).drew :=
  run_runes_of_string (P := Tryd.prog) w 9 29 21 s Tryd.underlying9 Tryd.underlying29 Tryd.underlying21 (Nat.le_trans (rl_le s) h)

theorem runeBlock_cell (w W : World) (s : ByteArray) (i : Nat) (h : i < rl s) : (W.alloc (runeBlock w s)).cell? ⟨W.heap.size, i, none⟩ = some (.int .i32 (rn s i)) := by
  unfold runeBlock
  rw [World.cell?_alloc_new, Array.getElem?_append_left h]
  exact rv_at s i h

/-- a row of n runes lies in the world from an address on -/
def Rin (w : World) (b off n : Nat) (x : Nat → Int) : Prop := ∀ i, i < n → w.cell? ⟨b, off + i, none⟩ = some (.int .i32 (x i))
/-- a row of n numbers lies in the world and may be written -/
def Irow (w : World) (b n : Nat) (f : Nat → Int) : Prop := (∀ i, i < n → w.cell? ⟨b, i, none⟩ = some (.int .i64 (f i))) ∧ ∀ i, i < n → w.frozen? ⟨b, i, none⟩ = false

theorem Irow.lt {w : World} {b n : Nat} {f : Nat → Int} (h : Irow w b n f) (hn : 0 < n) : b < w.heap.size := World.block_lt_of_cell? w _ (h.1 0 hn)
theorem Rin.lt {w : World} {b off n : Nat} {x : Nat → Int} (h : Rin w b off n x) (hn : 0 < n) : b < w.heap.size := World.block_lt_of_cell? w _ (h 0 hn)

theorem Rin.below {B : Nat} {w w' : World} {b off n : Nat} {x : Nat → Int} (h : Rin w b off n x) (hb : b < B) (k : Below B w w') : Rin w' b off n x :=
  fun i hi => (k.cell (p := ⟨b, off + i, none⟩) hb).trans (h i hi)

theorem Irow.set {w : World} {b n : Nat} {f g : Nat → Int} (h : Irow w b n f) (i : Nat) (v : Int) (hg : ∀ j, g j = if j = i then v else f j) :
    Irow (w.setCell ⟨b, i, none⟩ (.int .i64 v)) b n g := by
  refine ⟨fun j hj => ?_, fun j hj => ?_⟩
  · by_cases e : j = i
    · subst e
      rw [World.cell?_setCell_same w _ _ (h.1 j hj), hg, if_pos rfl]
    · rw [World.cell?_setCell_other w _ _ _ (fun q => e (by injection q with _ q2; exact q2.symm)), h.1 j hj, hg, if_neg e]
  · rw [World.frozen?_setCell]; exact h.2 j hj

theorem Irow.drew {w : World} {b n : Nat} {f : Nat → Int} (h : Irow w b n f) : Irow w.drew b n f := ⟨h.1, h.2⟩
theorem Rin.drew {w : World} {b off n : Nat} {f : Nat → Int} (h : Rin w b off n f) : Rin w.drew b off n f := h

theorem madeCells_i64 (n i : Nat) (h : i < n) : (madeCells #[Value.int .i64 0] n)[i]? = some (.int .i64 0) := by
  have := toList_madeCells_one (.int .i64 0) n
  rw [← Array.getElem?_toList, this, List.getElem?_replicate, if_pos h]

theorem size21 (w : World) : (sizeOf (Tryd.prog.elem 29)).run Tryd.prog w = .ok 1 w := by kernel_rfl
theorem elem29 : Tryd.prog.underlying 29 = some (.slice (Tryd.prog.elem 29)) := by kernel_rfl

/-- 's[P:]' of a slice of runes -/
theorem slice_from (b off l c P : Nat) (h : P ≤ l) (hc : l ≤ c) : ∃ o1 : Nat, (P < l → o1 = off + P) ∧
    ∀ wx : World, (Instr.slice 29 (.slice (some ⟨b, off, none⟩) l c) (some (.int .i64 (P : Int))) none none).run Tryd.prog wx = .ok (.slice (some ⟨b, o1, none⟩) (l - P) (c - P)) wx := by
  refine ⟨if c = P then off else off + P, fun hl => by rw [if_neg (by omega)], fun wx => ?_⟩
  rw [run_slice_l (P := Tryd.prog) wx 29 (some ⟨b, off, none⟩) l c elem29 .i64 (P : Int) (by omega) (by omega), size21]
  by_cases e : c = P
  · simp [Result.andThen, sliced, e]
  · by_cases e0 : P = 0
    · simp [Result.andThen, sliced, Addr.add, e0]
    · simp [Result.andThen, sliced, e, Addr.add, e0]

/-- 's[:k]' of a slice of runes -/
theorem slice_to (b off l c k : Nat) (h : k ≤ c) (wx : World) :
    (Instr.slice 29 (.slice (some ⟨b, off, none⟩) l c) none (some (.int .i64 (k : Int))) none).run Tryd.prog wx = .ok (.slice (some ⟨b, off, none⟩) k c) wx := by
  rw [run_slice_h (P := Tryd.prog) wx 29 (some ⟨b, off, none⟩) l c elem29 .i64 (k : Int) (by omega) (by omega), size21]
  by_cases e : c = 0
  · simp [Result.andThen, sliced, e]
  · simp [Result.andThen, sliced, e, Addr.add]

end Go.Proofs.YtmphoafjeojodaaDoor

/- the contracts of the small functions -/
import Derived.Test.YtmphoafjeojodaaDoorRows
import Derived.WalkKit
import Derived.WalkSpells
import Derived.WalkLawsBesides
import Derived.Lib.Hide
import Derived.Outline
namespace Go.Proofs.YtmphoafjeojodaaDoor
open Go.RowKit

/-- WHAT THE WALK IS TOLD OF A SLICE OF INTEGERS THAT CAME IN. -/
def IsRow (k : IntKind) (w : World) (a : Option Addr) (len cap : Nat) (zs : List Int) : Prop :=
  (a = none ∧ len = 0 ∧ cap = 0 ∧ zs = []) ∨
  ∃ x, a = some x ∧ len ≤ cap ∧ cap ≤ maxLen ∧ zs.length = cap ∧ (∀ i, i < zs.length → w.cell? (x.add i) = some (.int k (zs.getD i 0))) ∧ ∀ n ∈ zs, (Lit.int k n).wf = true

theorem ret_int {k : IntKind} {a b : Int} (h : a = b) : Ending.returned (.int k a) = .returned (.int k b) := by rw [h]

def letBlock : Obj := .cells #[.int .i32 97, .int .i32 98, .int .i32 99, .int .i32 233, .int .i32 26085, .int .i32 100] 21

/-- the letter of a number -/
def letter (j : Nat) : Int := [97, 98, 99, 233, 26085, 100].getD j 0

theorem letBlock_cell (w : World) (j : Nat) (h : j < 6) : (w.alloc letBlock).cell? ⟨w.heap.size, j, none⟩ = some (.int .i32 (letter j)) := by
  unfold letBlock
  rw [World.cell?_alloc_new]
  match j, h with
  | 0, _ => rfl
  | 1, _ => rfl
  | 2, _ => rfl
  | 3, _ => rfl
  | 4, _ => rfl
  | 5, _ => rfl
  | n + 6, h => omega

theorem letter_size (j : Nat) : (Utf8.encode (letter j)).size ≤ 3 := by
  match j with
  | 0 => decide
  | 1 => decide
  | 2 => decide
  | 3 => decide
  | 4 => decide
  | 5 => decide
  | n + 6 => simp [letter]; decide

theorem letters_any (w : World) : Calls Tryd.prog 9 #[] w fun e w' =>
    e = .returned (.slice (some ⟨w.heap.size, 0, none⟩) 6 6) ∧ w.alloc letBlock = w' := by
  go_enter Tryd.func9, Tryd.ntmps9
  go_wp2
  go_ret
  exact ⟨rfl, rfl⟩

/-- what a slice of bytes that came in is good for in a walk: an address, the cells, the bounds. -/
theorem IsRow.open {k : IntKind} {w : World} {a : Option Addr} {len cap : Nat} {zs : List Int} (h : IsRow k w a len cap zs) :
    (len = 0 ∧ ∀ j, zs.getD j 0 = zs.getD j 0) ∨ ∃ b off, a = some ⟨b, off, none⟩ ∧ 0 < len ∧ len ≤ cap ∧ cap ≤ maxLen ∧ zs.length = cap ∧ b < w.heap.size ∧
      (∀ i, i < len → w.cell? ⟨b, off + i, none⟩ = some (.int k (zs.getD i 0))) ∧ ∀ i, i < len → (Lit.int k (zs.getD i 0)).wf = true := by
  rcases h with ⟨_, rfl, _, _⟩ | ⟨x, rfl, hl, hm, hz, hcell, hwz⟩
  · exact .inl ⟨rfl, fun _ => rfl⟩
  · by_cases h0 : len = 0
    · exact .inl ⟨h0, fun _ => rfl⟩
    · obtain ⟨b, off, spot⟩ := x
      have hc := hcell 0 (by omega)
      have hspot : spot = none := by simpa [Addr.add] using World.cell?_spot hc
      subst hspot
      refine .inr ⟨b, off, rfl, by omega, hl, hm, hz, ?_, ?_, ?_⟩
      · have := World.block_lt_of_cell? w _ hc
        simpa [Addr.add] using this
      · intro i hi
        have := hcell i (by omega)
        by_cases h1 : i = 0
        · subst h1; simpa [Addr.add] using this
        · simpa [Addr.add, h1] using this
      · intro i hi
        apply hwz
        rw [List.getD_eq_getElem?_getD, List.getElem?_eq_getElem (by omega)]
        exact List.getElem_mem _

end Go.Proofs.YtmphoafjeojodaaDoor

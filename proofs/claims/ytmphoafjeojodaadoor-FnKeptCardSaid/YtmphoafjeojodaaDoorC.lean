/- spec.Costs -/
import Derived.Test.YtmphoafjeojodaaDoorR
import Derived.Test.YtmphoafjeojodaaDoorEd
import Derived.BigQuiet
import Derived.BigRegion
import Derived.RegionTactic
import Derived.Lib.MinMax
namespace Go.Proofs.YtmphoafjeojodaaDoor
open Go.RowKit

theorem info3 : (Tryd.prog.info? 3).map (fun i => (i.zero, i.size, i.bytes)) = some (some (.int .i64 0), 1, 8) := by kernel_rfl

theorem irow_of_own {w0 : World} {B g n : Nat} (h : w0.ownsRow B 3 1 (.slice (some ⟨g, 0, none⟩) n n) n (madeCells #[Value.int .i64 0] n).toList) : Irow w0 g n (fun _ => 0) :=
  ⟨fun i hi => by rw [h.cellAt i (by omega), Array.getElem?_toList, madeCells_i64 n i hi], fun i _ => h.frozenAt i⟩

theorem costs_start {w w0 : World} {a b : ByteArray} {w1 : World} (hg : ((w.alloc (runeBlock w a)).alloc (runeBlock w1 b)).drew.drew.grownBy w0 none) :
    Rin w0 w.heap.size 0 (rl a) (rn a) ∧ Rin w0 (w.heap.size + 1) 0 (rl b) (rn b) ∧ Below w.heap.size w w0 ∧ w.heap.size + 1 + 1 ≤ w0.heap.size := by
  refine ⟨fun i hi => ?_, fun i hi => ?_, ?_, ?_⟩
  · rw [Nat.zero_add]
    refine hg.cell ?_ (by simp)
    show ((w.alloc (runeBlock w a)).alloc _).cell? _ = _
    rw [World.cell?_alloc_past _ _ _ (by simp)]
    exact runeBlock_cell w w a i hi
  · rw [Nat.zero_add]
    refine hg.cell ?_ (by simp)
    have := runeBlock_cell w1 (w.alloc (runeBlock w a)) b i hi
    simpa using this
  · exact ((((Below.refl _ w).alloc (Nat.le_refl _) _).alloc (by simp) _).drew.drew).grown hg (by simp; omega) (by intro k h; cases h)
  · have := hg.size
    simpa using this

theorem mul_bound {k p N : Int} (hk : 0 ≤ k) (hN : k ≤ N) (hp : 0 ≤ p ∧ p ≤ 5) : 0 ≤ k * p ∧ k * p ≤ N * 5 := by
  refine ⟨Int.mul_nonneg hk hp.1, ?_⟩
  exact Int.le_trans (Int.mul_le_mul_of_nonneg_right hN hp.1) (Int.mul_le_mul_of_nonneg_left hp.2 (by omega))

theorem ed_bound (x y : Nat → Int) {a t o : Int} (ha : 0 ≤ a ∧ a ≤ 5) (ht : 0 ≤ t ∧ t ≤ 5) (ho : 0 ≤ o ∧ o ≤ 5) (i j : Nat) (hi : i ≤ 100) (hj : j ≤ 100) :
    0 ≤ ed x y a t o i j ∧ ed x y a t o i j ≤ 1000 := by
  have h1 := ed_nonneg x y a t o ha.1 ht.1 ho.1 i j
  have h2 := ed_le x y a t o i j
  have h3 := mul_bound (k := (i : Int)) (N := 100) (by omega) (by omega) ho
  have h4 := mul_bound (k := (j : Int)) (N := 100) (by omega) (by omega) ha
  omega

def Full (x y : Nat → Int) (p q o : Int) (n i : Nat) (f : Nat → Int) : Prop := ∀ j, j ≤ n → f j = ed x y p q o i j
def Half (x y : Nat → Int) (p q o : Int) (n i k : Nat) (f : Nat → Int) : Prop := (∀ j, j ≤ k → f j = ed x y p q o (i + 1) j) ∧ ∀ j, k < j → j ≤ n → f j = ed x y p q o i j
def IsEd (x y : Nat → Int) (p q o : Int) (i k : Nat) (v : Int) : Prop := v = ed x y p q o i k

theorem Full.start {x y : Nat → Int} {p q o : Int} {n i : Nat} {f : Nat → Int} (h : Full x y p q o n i f) :
    Half x y p q o n i 0 (fun j => if j = 0 then ((i : Int) + 1) * o else f j) ∧ IsEd x y p q o i 0 (f 0) := by
  refine ⟨⟨fun j hj => ?_, fun j hj hn => ?_⟩, h 0 (by omega)⟩
  · obtain rfl : j = 0 := by omega
    show (if 0 = 0 then _ else _) = _
    rw [if_pos rfl, ed_r0]; simp
  · show (if j = 0 then _ else _) = _
    rw [if_neg (by omega)]; exact h j hn

theorem Half.stop {x y : Nat → Int} {p q o : Int} {n i : Nat} {f : Nat → Int} (h : Half x y p q o n i n f) : Full x y p q o n (i + 1) f := fun j hj => h.1 j hj

theorem Half.step {x y : Nat → Int} {p q o : Int} {n i k : Nat} {f : Nat → Int} {l best : Int} (h : Half x y p q o n i k f) (hl : IsEd x y p q o i k l) (hk : k < n)
    (hb : best = min (min (f (k + 1) + o) (f k + p)) (l + if x i = y k then 0 else q)) :
    Half x y p q o n i (k + 1) (fun j => if j = k + 1 then best else f j) ∧ IsEd x y p q o i (k + 1) (f (k + 1)) := by
  have e1 := h.2 (k + 1) (by omega) (by omega)
  have e2 := h.1 k (by omega)
  refine ⟨⟨fun j hj => ?_, fun j hj hn => ?_⟩, e1⟩
  · show (if j = k + 1 then _ else _) = _
    by_cases e : j = k + 1
    · rw [if_pos e, e, hb, ed_ss, e1, e2, hl]
    · rw [if_neg e]; exact h.1 j (by omega)
  · show (if j = k + 1 then _ else _) = _
    rw [if_neg (by omega)]; exact h.2 j (by omega) hn

theorem Half.bounds {x y : Nat → Int} {p q o : Int} {n i k : Nat} {f : Nat → Int} (h : Half x y p q o n i k f) (ha : 0 ≤ p ∧ p ≤ 5) (ht : 0 ≤ q ∧ q ≤ 5) (ho : 0 ≤ o ∧ o ≤ 5) (hn : n ≤ 60) (hi : i ≤ 60) (j : Nat) (hj : j ≤ n) :
    0 ≤ f j ∧ f j ≤ 1000 := by
  by_cases e : j ≤ k
  · rw [h.1 j e]; exact ed_bound x y ha ht ho _ _ (by omega) (by omega)
  · rw [h.2 j (by omega) hj]; exact ed_bound x y ha ht ho _ _ (by omega) (by omega)
theorem IsEd.bounds {x y : Nat → Int} {p q o : Int} {i k : Nat} {l : Int} (h : IsEd x y p q o i k l) (ha : 0 ≤ p ∧ p ≤ 5) (ht : 0 ≤ q ∧ q ≤ 5) (ho : 0 ≤ o ∧ o ≤ 5) (hi : i ≤ 100) (hj : k ≤ 100) : 0 ≤ l ∧ l ≤ 1000 := by
  rw [h]; exact ed_bound x y ha ht ho _ _ hi hj

end Go.Proofs.YtmphoafjeojodaaDoor

/- spec.Costs -/
import Derived.Test.YtmphoafjeojodaaR
import Derived.Test.YtmphoafjeojodaaEd
import Derived.BigQuiet
import Derived.BigRegion
import Derived.RegionTactic
import Derived.Lib.MinMax
namespace Go.Proofs.Ytmphoafjeojodaa
open Go.RowKit

theorem info3 : (Try.prog.info? 3).map (fun i => (i.zero, i.size, i.bytes)) = some (some (.int .i64 0), 1, 8) := by kernel_rfl

theorem irow_of_own {w0 : World} {B g n : Nat} (h : w0.ownsRow B 3 1 (.slice (some ⟨g, 0, none⟩) n n) n (madeCells #[Value.int .i64 0] n).toList) : Irow w0 g n (fun _ => 0) :=
  ⟨fun i hi => by rw [h.cellAt i (by omega), Array.getElem?_toList, madeCells_i64 n i hi], fun i _ => h.frozenAt i⟩

theorem costs_start {w w0 : World} {a b : ByteArray} {w1 : World} (hg : ((w.alloc (runeBlock w a)).alloc (runeBlock w1 b)).drew.drew.grownBy w0 none) :
    Rin w0 w.heap.size 0 (rl a) (rn a) ∧ Rin w0 (w.heap.size + 1) 0 (rl b) (rn b) ∧ Below w.heap.size w w0 ∧ w.heap.size + 1 + 1 ≤ w0.heap.size := by
  refine ⟨fun i hi => ?_, fun i hi => ?_, ?_, ?_⟩
  · rw [Nat.zero_add]
    refine hg.cell ?_ (by simp)
    show ((w.alloc (runeBlock w a)).alloc _).cell? _ = _
    rw [World.cell?_alloc_past _ _ _ (by simp)]
    exact runeBlock_cell w w a i hi
  · rw [Nat.zero_add]
    refine hg.cell ?_ (by simp)
    have := runeBlock_cell w1 (w.alloc (runeBlock w a)) b i hi
    simpa using this
  · exact ((((Below.refl _ w).alloc (Nat.le_refl _) _).alloc (by simp) _).drew.drew).grown hg (by simp; omega) (by intro k h; cases h)
  · have := hg.size
    simpa using this

theorem mul_bound {k p N : Int} (hk : 0 ≤ k) (hN : k ≤ N) (hp : 0 ≤ p ∧ p ≤ 5) : 0 ≤ k * p ∧ k * p ≤ N * 5 := by
  refine ⟨Int.mul_nonneg hk hp.1, ?_⟩
  exact Int.le_trans (Int.mul_le_mul_of_nonneg_right hN hp.1) (Int.mul_le_mul_of_nonneg_left hp.2 (by omega))

theorem ed_bound (x y : Nat → Int) {a t o : Int} (ha : 0 ≤ a ∧ a ≤ 5) (ht : 0 ≤ t ∧ t ≤ 5) (ho : 0 ≤ o ∧ o ≤ 5) (i j : Nat) (hi : i ≤ 100) (hj : j ≤ 100) :
    0 ≤ ed x y a t o i j ∧ ed x y a t o i j ≤ 1000 := by
  have h1 := ed_nonneg x y a t o ha.1 ht.1 ho.1 i j
  have h2 := ed_le x y a t o i j
  have h3 := mul_bound (k := (i : Int)) (N := 100) (by omega) (by omega) ho
  have h4 := mul_bound (k := (j : Int)) (N := 100) (by omega) (by omega) ha
  omega

def Full (x y : Nat → Int) (p q o : Int) (n i : Nat) (f : Nat → Int) : Prop := ∀ j, j ≤ n → f j = ed x y p q o i j
def Half (x y : Nat → Int) (p q o : Int) (n i k : Nat) (f : Nat → Int) : Prop := (∀ j, j ≤ k → f j = ed x y p q o (i + 1) j) ∧ ∀ j, k < j → j ≤ n → f j = ed x y p q o i j
def IsEd (x y : Nat → Int) (p q o : Int) (i k : Nat) (v : Int) : Prop := v = ed x y p q o i k

theorem Full.start {x y : Nat → Int} {p q o : Int} {n i : Nat} {f : Nat → Int} (h : Full x y p q o n i f) :
    Half x y p q o n i 0 (fun j => if j = 0 then ((i : Int) + 1) * o else f j) ∧ IsEd x y p q o i 0 (f 0) := by
  refine ⟨⟨fun j hj => ?_, fun j hj hn => ?_⟩, h 0 (by omega)⟩
  · obtain rfl : j = 0 := by omega
    show (if 0 = 0 then _ else _) = _
    rw [if_pos rfl, ed_r0]; simp
  · show (if j = 0 then _ else _) = _
    rw [if_neg (by omega)]; exact h j hn

theorem Half.stop {x y : Nat → Int} {p q o : Int} {n i : Nat} {f : Nat → Int} (h : Half x y p q o n i n f) : Full x y p q o n (i + 1) f := fun j hj => h.1 j hj

theorem Half.step {x y : Nat → Int} {p q o : Int} {n i k : Nat} {f : Nat → Int} {l best : Int} (h : Half x y p q o n i k f) (hl : IsEd x y p q o i k l) (hk : k < n)
    (hb : best = min (min (f (k + 1) + o) (f k + p)) (l + if x i = y k then 0 else q)) :
    Half x y p q o n i (k + 1) (fun j => if j = k + 1 then best else f j) ∧ IsEd x y p q o i (k + 1) (f (k + 1)) := by
  have e1 := h.2 (k + 1) (by omega) (by omega)
  have e2 := h.1 k (by omega)
  refine ⟨⟨fun j hj => ?_, fun j hj hn => ?_⟩, e1⟩
  · show (if j = k + 1 then _ else _) = _
    by_cases e : j = k + 1
    · rw [if_pos e, e, hb, ed_ss, e1, e2, hl]
    · rw [if_neg e]; exact h.1 j (by omega)
  · show (if j = k + 1 then _ else _) = _
    rw [if_neg (by omega)]; exact h.2 j (by omega) hn

theorem Half.bounds {x y : Nat → Int} {p q o : Int} {n i k : Nat} {f : Nat → Int} (h : Half x y p q o n i k f) (ha : 0 ≤ p ∧ p ≤ 5) (ht : 0 ≤ q ∧ q ≤ 5) (ho : 0 ≤ o ∧ o ≤ 5) (hn : n ≤ 60) (hi : i ≤ 60) (j : Nat) (hj : j ≤ n) :
    0 ≤ f j ∧ f j ≤ 1000 := by
  by_cases e : j ≤ k
  · rw [h.1 j e]; exact ed_bound x y ha ht ho _ _ (by omega) (by omega)
  · rw [h.2 j (by omega) hj]; exact ed_bound x y ha ht ho _ _ (by omega) (by omega)
theorem IsEd.bounds {x y : Nat → Int} {p q o : Int} {i k : Nat} {l : Int} (h : IsEd x y p q o i k l) (ha : 0 ≤ p ∧ p ≤ 5) (ht : 0 ≤ q ∧ q ≤ 5) (ho : 0 ≤ o ∧ o ≤ 5) (hi : i ≤ 100) (hj : k ≤ 100) : 0 ≤ l ∧ l ≤ 1000 := by
  rw [h]; exact ed_bound x y ha ht ho _ _ hi hj

set_option maxRecDepth 100000 in
set_option maxHeartbeats 3200000 in
theorem costs_any (a b : ByteArray) (p q o : Int) (w : World) (ha : a.size ≤ 60) (hb : b.size ≤ 60) (hp : 0 ≤ p ∧ p ≤ 5) (hq : 0 ≤ q ∧ q ≤ 5) (ho : 0 ≤ o ∧ o ≤ 5) :
    Calls Try.prog 15 #[.string a, .string b, .int .i64 p, .int .i64 q, .int .i64 o] w fun e w' =>
      e = .returned (.int .i64 (ed (rn a) (rn b) p q o (rl a) (rl b))) ∧ Below w.heap.size w w' := by
  have hca := fun wx => conv_runes a (by omega) wx
  have hcb := fun wx => conv_runes b (by omega) wx
  have la := rl_le a
  have lb := rl_le b
  obtain ⟨i0, hi, hz0, hz1, hz2⟩ := info_parts info3
  go_enter Try.func15, Try.ntmps15
  go_wp2_with (at_make; refine wpList_make_full _ rfl _ _ 49 rfl (w.heap.size + 2) 3 i0 (.int .i64 0) 1 Try.underlying49 hi hz0 hz1 _ _ _ _ (rl b + 1) rfl rfl (by omega) (by omega) ?b2 ?b3 ?b4 ?_)
  case b2 => rw [hz2]; omega
  case b3 => unfold maxLen; omega
  case b4 => simp
  intro w0 hown0 hgrow0
  clear hca hcb hi hz0 hz1 hz2 i0
  obtain ⟨hx0, hy0, hB0, hsz0⟩ := costs_start hgrow0
  have hr0 := irow_of_own hown0
  clear hgrow0 hown0
  go_wp2
  go_loopw [31] (fun i wr => ∃ k : Nat, k ≤ rl b + 1 ∧ i = .int .i64 k ∧ (∃ f, Irow wr (w.heap.size + 1 + 1) (rl b + 1) f ∧ ∀ j, j < k → f j = (j : Int) * p) ∧ Below (w.heap.size + 1 + 1) w0 wr) (fun i _ => rl b + 1 - (intOf i).toNat)
  case atStart => exact ⟨0, by omega, rfl, ⟨_, hr0, fun j hj => by omega⟩, Below.refl _ _⟩
  case round =>
    obtain ⟨k, hk, rfl, ⟨f, hf, hfk⟩, hnx⟩ := hrel
    have HF : Hid (∀ j, j < k → f j = (j : Int) * p) := hfk
    clear hfk
    by_cases hlt : k < rl b + 1
    · have hkp := mul_bound (k := (k : Int)) (N := 100) (by omega) (by omega) hp
      have hc := hf.1 k hlt
      have hfr := hf.2 k hlt
      go_wp2
      go_roundw
      case rel => exact ⟨k + 1, by omega, by go_num, ⟨fun j => if j = k then (k : Int) * p else f j, hf.set k _ (fun j => rfl), fun j hj => by
          show (if j = k then _ else _) = _
          by_cases e : j = k
          · rw [if_pos e, e]
          · rw [if_neg e]; exact HF.out j (by omega)⟩, hnx.setCell (by simp) _⟩
      case measure => simp [intOf]; omega
    · have HF2 : Full (rn a) (rn b) p q o (rl b) 0 f := fun j hj => by rw [ed_0]; exact HF.out j (by omega)
      clear HF
      go_wp2
      go_loopw [43] (fun i wr => ∃ k : Nat, k ≤ rl a ∧ i = .int .i64 k ∧ (∃ f, Irow wr (w.heap.size + 1 + 1) (rl b + 1) f ∧ Full (rn a) (rn b) p q o (rl b) k f) ∧ Below (w.heap.size + 1 + 1) w0 wr) (fun i _ => rl a - (intOf i).toNat)
      case atStart => exact ⟨0, by omega, rfl, ⟨_, hf, HF2⟩, hnx⟩
      case round =>
        clear HF2 hf hnx hlt hk hr0
        obtain ⟨i, hi, rfl, ⟨g, hg, HG⟩, hnx⟩ := hrel
        by_cases hil : i < rl a
        · have hxc : wr.cell? ⟨w.heap.size, i, none⟩ = some (.int .i32 (rn a i)) := by simpa using (hx0.below (by omega) hnx) i hil
          obtain ⟨hh, hl⟩ := HG.start
          have hc0 := hg.1 0 (by omega)
          have hf0 := hg.2 0 (by omega)
          have hio := mul_bound (k := (i : Int) + 1) (N := 100) (by omega) (by omega) ho
          have hg1 := hg.set 0 (((i : Int) + 1) * o) (fun j => rfl)
          have hnx1 := hnx.setCell (p := ⟨w.heap.size + 1 + 1, 0, none⟩) (by simp) (.int .i64 (((i : Int) + 1) * o))
          go_wp2
          go_loopw [59, 17] (fun j l wr => ∃ k : Nat, k ≤ rl b ∧ j = .int .i64 k ∧ (∃ v, l = .int .i64 v ∧ IsEd (rn a) (rn b) p q o i k v) ∧ (∃ f, Irow wr (w.heap.size + 1 + 1) (rl b + 1) f ∧ Half (rn a) (rn b) p q o (rl b) i k f) ∧ Below (w.heap.size + 1 + 1) w0 wr) (fun i _ _ => rl b - (intOf i).toNat)
          case atStart => exact ⟨0, by omega, rfl, ⟨_, rfl, hl⟩, ⟨_, hg1, hh⟩, hnx1⟩
          case round =>
            clear hxc hh hl hc0 hf0 hg1 hnx1 hg HG hnx
            obtain ⟨k, hk, rfl, ⟨v, rfl, hv⟩, ⟨f, hf, HH⟩, hnx⟩ := hrel
            by_cases hkl : k < rl b
            · have hyc : wr.cell? ⟨w.heap.size + 1, k, none⟩ = some (.int .i32 (rn b k)) := by simpa using (hy0.below (by omega) hnx) k hkl
              have hc1 := hf.1 k (by omega)
              have hc2 := hf.1 (k + 1) (by omega)
              have hfr := hf.2 (k + 1) (by omega)
              have b1 := HH.bounds hp hq ho (by omega) (by omega) k (by omega)
              have b2 := HH.bounds hp hq ho (by omega) (by omega) (k + 1) (by omega)
              have b3 := hv.bounds hp hq ho (by omega) (by omega)
              go_wp2
              go_region
              go_wp2
              all_goals
                go_roundw
                case rel =>
                  first
                    | (have e : (rn a i == rn b k) = true := by assumption
                       have hxy : rn a i = rn b k := by simpa using e
                       obtain ⟨s1, s2⟩ := HH.step hv hkl (best := min (f (k + 1) + o) (min (f k + p) v)) (by rw [if_pos hxy]; omega)
                       exact ⟨k + 1, by omega, by go_num, ⟨_, rfl, s2⟩, ⟨_, (hf.set (k + 1) _ (fun j => rfl)).drew, s1⟩, (hnx.setCell (p := ⟨w.heap.size + 1 + 1, k + 1, none⟩) (by simp) _).drew⟩)
                    | (have e : (rn a i == rn b k) = false := by assumption
                       have hxy : ¬ rn a i = rn b k := by simpa using e
                       obtain ⟨s1, s2⟩ := HH.step hv hkl (best := min (f (k + 1) + o) (min (f k + p) (v + q))) (by rw [if_neg hxy]; omega)
                       exact ⟨k + 1, by omega, by go_num, ⟨_, rfl, s2⟩, ⟨_, (hf.set (k + 1) _ (fun j => rfl)).drew, s1⟩, (hnx.setCell (p := ⟨w.heap.size + 1 + 1, k + 1, none⟩) (by simp) _).drew⟩)
                case measure => simp [intOf]; omega
            · have hke : k = rl b := by omega
              subst hke
              have HS := HH.stop
              clear HH hv
              go_wp2
              go_roundw
              case rel => exact ⟨i + 1, by omega, by go_num, ⟨_, hf, HS⟩, hnx⟩
              case measure => simp [intOf]; omega
        · have hie : i = rl a := by omega
          subst hie
          have hfin : IsEd (rn a) (rn b) p q o (rl a) (rl b) (g (rl b)) := HG (rl b) (by omega)
          have hc := hg.1 (rl b) (by omega)
          have hb2 := hB0.trans (hnx.mono (B' := w.heap.size) (by omega))
          clear HG
          go_wp2
          go_ret
          exact ⟨ret_int hfin, hb2⟩
end Go.Proofs.Ytmphoafjeojodaa

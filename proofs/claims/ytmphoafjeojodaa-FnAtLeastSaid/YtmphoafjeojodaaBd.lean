/- the banded reckoning: how its numbers go with the least costs, in plain numbers -/
import Derived.Test.YtmphoafjeojodaaEd
namespace Go.Proofs.Ytmphoafjeojodaa

/-- the same up to m, and both above m otherwise -/
def Ag (m v d : Int) : Prop := min v (m + 1) = min d (m + 1)
theorem Ag.rfl' (m v : Int) : Ag m v v := rfl
theorem Ag.add {m v d s : Int} (h : Ag m v d) (hs : 0 ≤ s) : Ag m (v + s) (d + s) := by unfold Ag at *; omega
theorem Ag.one {m v d : Int} (h : Ag m v d) : Ag m (v + 1) (d + 1) := h.add (by omega)
theorem min_part (a b c : Int) : min (min a b) c = min (min a c) (min b c) := by omega
theorem Ag.both {m v d v' d' : Int} (h : Ag m v d) (h' : Ag m v' d') : Ag m (min v v') (min d d') := by
  unfold Ag at *
  rw [min_part, min_part d, h, h']
theorem min_turn (a b c : Int) : min (min a b) c = min (min c b) a := by omega
theorem Ag.three {m v0 v1 v2 d0 d1 d2 s : Int} (h0 : Ag m v0 d0) (h1 : Ag m v1 d1) (h2 : Ag m v2 d2) (hs : 0 ≤ s) :
    Ag m (min (min (v0 + s) (v1 + 1)) (v2 + 1)) (min (min (d2 + 1) (d1 + 1)) (d0 + s)) := by
  rw [min_turn (d2 + 1)]
  exact ((h0.add hs).both h1.one).both h2.one
theorem Ag.of_gt {m v d : Int} (hv : m < v) (hd : m < d) : Ag m v d := by unfold Ag; omega
/-- what is above the most changes nothing -/
theorem Ag.drop {m v a b : Int} (h : Ag m v a) (hb : m < b) : Ag m v (min a b) := by unfold Ag at *; omega
theorem Ag.gt {m v d : Int} (h : Ag m v d) (hv : m < v) : m < d := by unfold Ag at h; omega
theorem Ag.eq {m v d : Int} (h : Ag m v d) (hd : d ≤ m) : v = d := by unfold Ag at h; omega

/-- a row from behind a row: the numbers of the band -/
structure Band (v u : Nat → Int) (m : Int) (l1 x o r : Nat) (f : Nat → Int) : Prop where
  le : o ≤ r
  top : r ≤ l1
  low : ∀ j, j < o → m < ed v u 1 1 1 x j
  high : ∀ j, r < j → j ≤ l1 → m < ed v u 1 1 1 x j
  mid : ∀ j, o ≤ j → j ≤ r → Ag m (f j) (ed v u 1 1 1 x j)
  bnd : ∀ j, j ≤ l1 → 0 ≤ f j ∧ f j ≤ 100 + x
/-- within a row, up to y -/
structure Mid (v u : Nat → Int) (m : Int) (l1 x o r y : Nat) (dy : Int) (f : Nat → Int) : Prop where
  le : o ≤ y
  ler : y ≤ r
  top : r ≤ l1
  low : ∀ j, j < o → m < ed v u 1 1 1 (x + 1) j
  high : ∀ j, r < j → j ≤ l1 → m < ed v u 1 1 1 x j
  diag : Ag m dy (ed v u 1 1 1 x y)
  new : ∀ j, o ≤ j → j ≤ y → Ag m (f j) (ed v u 1 1 1 (x + 1) j)
  old : ∀ j, y < j → j ≤ r → Ag m (f j) (ed v u 1 1 1 x j)
  bdy : 0 ≤ dy ∧ dy ≤ 100 + x
  bnd : ∀ j, j ≤ l1 → 0 ≤ f j ∧ f j ≤ 101 + x
  bold : ∀ j, y < j → j ≤ l1 → f j ≤ 100 + x
/-- behind the old band -/
structure Ext (v u : Nat → Int) (m : Int) (l1 x o y : Nat) (dy : Int) (f : Nat → Int) : Prop where
  le : o ≤ y
  top : y ≤ l1
  low : ∀ j, j < o → m < ed v u 1 1 1 (x + 1) j
  high : ∀ j, y < j → j ≤ l1 → m < ed v u 1 1 1 x j
  new : ∀ j, o ≤ j → j ≤ y → Ag m (f j) (ed v u 1 1 1 (x + 1) j)
  diag : y < l1 → Ag m dy (ed v u 1 1 1 (x + 1) (y + 1))
  bdy : 0 ≤ dy ∧ dy ≤ 101 + x
  bnd : ∀ j, j ≤ l1 → 0 ≤ f j ∧ f j ≤ 101 + x

theorem Band.start {v u : Nat → Int} {m : Int} {l1 k : Nat} {f : Nat → Int} (hk : k ≤ l1) (hl : (l1 : Int) ≤ 100) (hkm : (k : Int) ≤ m) (hz : k = l1 ∨ m < (k : Int) + 1) (hf : ∀ j, j ≤ k → f j = (j : Int)) (h0 : ∀ j, k < j → j ≤ l1 → f j = 0) :
    Band v u m l1 0 0 k f := by
  refine ⟨Nat.zero_le _, hk, fun j hj => by omega, fun j h1 h2 => ?_, fun j h1 h2 => ?_, fun j h1 => ?_⟩
  · rw [ed_0]; omega
  · rw [ed_0, hf j h2]; unfold Ag; omega
  · by_cases h : j ≤ k
    · rw [hf j h]; omega
    · rw [h0 j (by omega) h1]; omega

theorem low_next {v u : Nat → Int} {m : Int} {x o : Nat} (h : ∀ j, j < o → m < ed v u 1 1 1 x j) : ∀ j, j < o → m < ed v u 1 1 1 (x + 1) j := by
  intro j
  induction j with
  | zero => intro hj; have := h 0 hj; rw [ed_r0] at this ⊢; omega
  | succ j ih =>
    intro hj
    have h1 := ih (by omega)
    have h2 := h j (by omega)
    have h3 := h (j + 1) hj
    rw [ed_ss]
    have h4 : (0 : Int) ≤ if v x = u j then 0 else 1 := by split <;> omega
    omega

theorem Band.enter {v u : Nat → Int} {m : Int} {l1 x o r : Nat} {f : Nat → Int} (h : Band v u m l1 x o r f) :
    Mid v u m l1 x o r o (f o) (fun j => if j = o then f o + 1 else f j) := by
  have b0 := h.bnd o (by have := h.le; have := h.top; omega)
  refine ⟨Nat.le_refl _, h.le, h.top, low_next h.low, h.high, h.mid o (Nat.le_refl _) h.le, fun j h1 h2 => ?_, fun j h1 h2 => ?_, b0, fun j h1 => ?_, fun j h1 h2 => ?_⟩
  · obtain rfl : j = o := by omega
    show Ag m (if j = j then f j + 1 else f j) _
    rw [if_pos rfl]
    have hmid := h.mid j (Nat.le_refl _) h.le
    unfold Ag at hmid ⊢
    cases j with
    | zero => rw [ed_r0] at hmid ⊢; omega
    | succ j =>
      have h2 := h.low j (by omega)
      have h3 := low_next h.low j (by omega)
      rw [ed_ss]
      have h4 : (0 : Int) ≤ if v x = u j then 0 else 1 := by split <;> omega
      omega
  · show Ag m (if j = o then f o + 1 else f j) _
    rw [if_neg (by omega)]
    exact h.mid j (by omega) h2
  · show 0 ≤ (if j = o then f o + 1 else f j) ∧ (if j = o then f o + 1 else f j) ≤ _
    have := h.bnd j h1
    split <;> omega
  · show (if j = o then f o + 1 else f j) ≤ _
    rw [if_neg (by omega)]
    exact (h.bnd j h2).2

/-- one more number of the band -/
theorem Mid.step {v u : Nat → Int} {m : Int} {l1 x o r y : Nat} {dy dz : Int} {f : Nat → Int} (h : Mid v u m l1 x o r y dy f) (hy : y < r)
    (hz : dz = min (min (dy + if v x = u y then 0 else 1) (f y + 1)) (f (y + 1) + 1)) : Mid v u m l1 x o r (y + 1) (f (y + 1)) (fun j => if j = y + 1 then dz else f j) := by
  have hd := h.diag
  have hn := h.new y h.le (Nat.le_refl _)
  have ho := h.old (y + 1) (by omega) (by omega)
  have ht := h.top
  have b1 := h.bnd (y + 1) (by omega)
  have b2 := h.bold (y + 1) (by omega) (by omega)
  have b3 := h.bnd y (by omega)
  have b4 := h.bdy
  have hs : (if v x = u y then (0 : Int) else 1) = 0 ∨ (if v x = u y then (0 : Int) else 1) = 1 := by split <;> omega
  have hs0 : (0 : Int) ≤ if v x = u y then 0 else 1 := by split <;> omega
  refine ⟨by have := h.le; omega, by omega, ht, h.low, h.high, ho, fun j h1 h2 => ?_, fun j h1 h2 => ?_, ⟨b1.1, b2⟩, fun j h1 => ?_, fun j h1 h2 => ?_⟩
  · show Ag m (if j = y + 1 then dz else f j) _
    by_cases e : j = y + 1
    · subst e
      rw [if_pos rfl, ed_ss, hz]
      exact Ag.three hd hn ho hs0
    · rw [if_neg e]; exact h.new j h1 (by omega)
  · show Ag m (if j = y + 1 then dz else f j) _
    rw [if_neg (by omega)]
    exact h.old j (by omega) h2
  · show 0 ≤ (if j = y + 1 then dz else f j) ∧ (if j = y + 1 then dz else f j) ≤ _
    have := h.bnd j h1
    split
    · rw [hz]; rcases hs with hs | hs <;> rw [hs] <;> omega
    · omega
  · show (if j = y + 1 then dz else f j) ≤ _
    rw [if_neg (by omega)]
    exact h.bold j (by omega) h2

/-- the band's beginning moves on -/
theorem Mid.slide {v u : Nat → Int} {m : Int} {l1 x o r : Nat} {dy dz : Int} {f : Nat → Int} (h : Mid v u m l1 x o r o dy f) (ho : m < f o) (hy : o < r)
    (hz : dz = min (dy + if v x = u o then 0 else 1) (f (o + 1) + 1)) : Mid v u m l1 x (o + 1) r (o + 1) (f (o + 1)) (fun j => if j = o + 1 then dz else f j) := by
  have hd := h.diag
  have hn := h.new o (Nat.le_refl _) (Nat.le_refl _)
  have hno := hn.gt ho
  have hol := h.old (o + 1) (by omega) (by omega)
  have ht := h.top
  have b1 := h.bnd (o + 1) (by omega)
  have b2 := h.bold (o + 1) (by omega) (by omega)
  have b4 := h.bdy
  have hs : (if v x = u o then (0 : Int) else 1) = 0 ∨ (if v x = u o then (0 : Int) else 1) = 1 := by split <;> omega
  have hs0 : (0 : Int) ≤ if v x = u o then 0 else 1 := by split <;> omega
  refine ⟨Nat.le_refl _, by omega, ht, fun j hj => ?_, h.high, hol, fun j h1 h2 => ?_, fun j h1 h2 => ?_, ⟨b1.1, b2⟩, fun j h1 => ?_, fun j h1 h2 => ?_⟩
  · by_cases e : j = o
    · rw [e]; exact hno
    · exact h.low j (by omega)
  · obtain rfl : j = o + 1 := by omega
    show Ag m (if o + 1 = o + 1 then dz else f (o + 1)) _
    rw [if_pos rfl, ed_ss, hz, show ∀ a b c : Int, min (min a b) c = min (min c a) b from fun a b c => by omega]
    exact ((hd.add hs0).both hol.one).drop (by omega)
  · show Ag m (if j = o + 1 then dz else f j) _
    rw [if_neg (by omega)]
    exact h.old j (by omega) h2
  · show 0 ≤ (if j = o + 1 then dz else f j) ∧ (if j = o + 1 then dz else f j) ≤ _
    have := h.bnd j h1
    split
    · rw [hz]; rcases hs with hs | hs <;> rw [hs] <;> omega
    · omega
  · show (if j = o + 1 then dz else f j) ≤ _
    rw [if_neg (by omega)]
    exact h.bold j (by omega) h2

/-- the old band is done, and there is a place behind it -/
theorem Mid.ext {v u : Nat → Int} {m : Int} {l1 x o r : Nat} {dy dz : Int} {f : Nat → Int} (h : Mid v u m l1 x o r r dy f) (hy : r < l1)
    (hz : dz = min (dy + if v x = u r then 0 else 1) (f r + 1)) : Ext v u m l1 x o r dz f := by
  have hd := h.diag
  have hn := h.new r h.le (Nat.le_refl _)
  have hh := h.high (r + 1) (by omega) (by omega)
  have b1 := h.bnd r (by omega)
  have b4 := h.bdy
  have hs : (if v x = u r then (0 : Int) else 1) = 0 ∨ (if v x = u r then (0 : Int) else 1) = 1 := by split <;> omega
  have hs0 : (0 : Int) ≤ if v x = u r then 0 else 1 := by split <;> omega
  refine ⟨h.le, h.top, h.low, h.high, h.new, fun _ => ?_, ?_, h.bnd⟩
  · rw [ed_ss, hz, show ∀ a b c : Int, min (min a b) c = min (min c b) a from fun a b c => by omega]
    exact ((hd.add hs0).both hn.one).drop (by omega)
  · rw [hz]; rcases hs with hs | hs <;> rw [hs] <;> omega
/-- the band's end moves on -/
theorem Ext.step {v u : Nat → Int} {m : Int} {l1 x o y : Nat} {dy : Int} {f : Nat → Int} (h : Ext v u m l1 x o y dy f) (hm : m ≤ 100) (hy : y < l1) (hd : dy ≤ m) :
    Ext v u m l1 x o (y + 1) (dy + 1) (fun j => if j = y + 1 then dy else f j) := by
  have hdi := h.diag hy
  have b4 := h.bdy
  refine ⟨by have := h.le; omega, by omega, h.low, fun j h1 h2 => h.high j (by omega) h2, fun j h1 h2 => ?_, fun h1 => ?_, by omega, fun j h1 => ?_⟩
  · show Ag m (if j = y + 1 then dy else f j) _
    by_cases e : j = y + 1
    · subst e
      rw [if_pos rfl]; exact hdi
    · rw [if_neg e]; exact h.new j h1 (by omega)
  · have h5 := h.high (y + 1) (by omega) (by omega)
    have h6 := h.high (y + 1 + 1) (by omega) (by omega)
    have hs : (0 : Int) ≤ if v x = u (y + 1) then 0 else 1 := by split <;> omega
    rw [ed_ss, show ∀ a b c : Int, min (min a b) c = min b (min a c) from fun a b c => by omega]
    exact hdi.one.drop (by omega)
  · show 0 ≤ (if j = y + 1 then dy else f j) ∧ (if j = y + 1 then dy else f j) ≤ _
    have := h.bnd j h1
    split <;> omega
theorem Ext.stop {v u : Nat → Int} {m : Int} {l1 x o y : Nat} {dy : Int} {f : Nat → Int} (h : Ext v u m l1 x o y dy f) (hd : m < dy ∨ y = l1) : Band v u m l1 (x + 1) o y f := by
  refine ⟨h.le, h.top, h.low, ?_, h.new, fun j h1 => by have := h.bnd j h1; omega⟩
  intro j
  induction j with
  | zero => intro h1; omega
  | succ j ih =>
    intro h1 h2
    by_cases e : j = y
    · subst e
      rcases hd with hd | hd
      · exact (h.diag (by omega)).gt hd
      · omega
    · have h3 := ih (by omega) (by omega)
      have h4 := h.high j (by omega) (by omega)
      have h5 := h.high (j + 1) (by omega) h2
      have hs : (0 : Int) ≤ if v x = u j then 0 else 1 := by split <;> omega
      rw [ed_ss]
      omega
theorem Mid.stop {v u : Nat → Int} {m : Int} {l1 x o r : Nat} {dy : Int} {f : Nat → Int} (h : Mid v u m l1 x o r r dy f) (hy : r = l1) : Band v u m l1 (x + 1) o r f :=
  ⟨h.le, h.top, h.low, fun j h1 h2 => by omega, h.new, fun j h1 => by have := h.bnd j h1; omega⟩

/-- each row has a number below the most -/
def Live (v u : Nat → Int) (m : Int) (l1 l2 : Nat) : Prop := ∀ x, x < l2 → ∃ y, y ≤ l1 ∧ ed v u 1 1 1 x y ≤ m - 1
theorem row_back (v u : Nat → Int) (k : Int) (x : Nat) : ∀ y, ed v u 1 1 1 (x + 1) y ≤ k → ∃ y', y' ≤ y ∧ ed v u 1 1 1 x y' ≤ k := by
  intro y
  induction y with
  | zero => intro h; exact ⟨0, Nat.le_refl _, by rw [ed_r0] at h ⊢; omega⟩
  | succ y ih =>
    intro h
    rw [ed_ss] at h
    have hs : (0 : Int) ≤ if v x = u y then 0 else 1 := by split <;> omega
    rcases (show ed v u 1 1 1 x (y + 1) ≤ k ∨ ed v u 1 1 1 x y ≤ k ∨ ed v u 1 1 1 (x + 1) y ≤ k from by omega) with h1 | h1 | h1
    · exact ⟨y + 1, Nat.le_refl _, h1⟩
    · exact ⟨y, by omega, h1⟩
    · obtain ⟨y', h2, h3⟩ := ih h1
      exact ⟨y', by omega, h3⟩
theorem live_of (v u : Nat → Int) (m : Int) (l1 l2 : Nat) (h1 : 0 < l1) (h2 : 0 < l2) (hne : v (l2 - 1) ≠ u (l1 - 1)) (h : ed v u 1 1 1 l2 l1 ≤ m) : Live v u m l1 l2 := by
  obtain ⟨X, rfl⟩ : ∃ X, l2 = X + 1 := ⟨l2 - 1, by omega⟩
  obtain ⟨Y, rfl⟩ : ∃ Y, l1 = Y + 1 := ⟨l1 - 1, by omega⟩
  have hne' : v X ≠ u Y := by simpa using hne
  have hlast : ∃ y, y ≤ Y + 1 ∧ ed v u 1 1 1 X y ≤ m - 1 := by
    rw [ed_ss, if_neg hne'] at h
    rcases (show ed v u 1 1 1 X (Y + 1) ≤ m - 1 ∨ ed v u 1 1 1 X Y ≤ m - 1 ∨ ed v u 1 1 1 (X + 1) Y ≤ m - 1 from by omega) with h3 | h3 | h3
    · exact ⟨Y + 1, Nat.le_refl _, h3⟩
    · exact ⟨Y, by omega, h3⟩
    · obtain ⟨y', h4, h5⟩ := row_back v u (m - 1) X Y h3
      exact ⟨y', by omega, h5⟩
  have key : ∀ k, k ≤ X → ∃ y, y ≤ Y + 1 ∧ ed v u 1 1 1 (X - k) y ≤ m - 1 := by
    intro k
    induction k with
    | zero => intro _; exact hlast
    | succ k ih =>
      intro hk
      obtain ⟨y, h3, h4⟩ := ih (by omega)
      rw [show X - k = (X - (k + 1)) + 1 from by omega] at h4
      obtain ⟨y', h5, h6⟩ := row_back v u (m - 1) _ y h4
      exact ⟨y', by omega, h6⟩
  intro x hx
  have := key (X - x) (by omega)
  rwa [show X - (X - x) = x from by omega] at this

/-- the window does not run empty -/
theorem Mid.room {v u : Nat → Int} {m : Int} {l1 l2 x o r : Nat} {dy : Int} {f : Nat → Int} (h : Mid v u m l1 x o r o dy f) (hl : Live v u m l1 l2) (hx : x < l2) (ho : m < f o) : o < r := by
  obtain ⟨y, h1, h2⟩ := hl x hx
  have h3 := ed_up v u 1 1 1 x y
  have h4 := (h.new o (Nat.le_refl _) (Nat.le_refl _)).gt ho
  by_cases e : y < o
  · have := h.low y e; omega
  · by_cases e2 : r < y
    · have := h.high y e2 h1; omega
    · by_cases e3 : y = o
      · subst e3; omega
      · omega
theorem Band.last {v u : Nat → Int} {m : Int} {l1 x o r : Nat} {f : Nat → Int} (h : Band v u m l1 x o r f) (hd : ed v u 1 1 1 x l1 ≤ m) : r = l1 ∧ f l1 = ed v u 1 1 1 x l1 := by
  have ht := h.top
  have e1 : ¬ r < l1 := fun e => by have := h.high l1 e (Nat.le_refl _); omega
  have e2 : ¬ l1 < o := fun e => by have := h.low l1 e; omega
  exact ⟨by omega, (h.mid l1 (by omega) (by omega)).eq hd⟩
end Go.Proofs.Ytmphoafjeojodaa

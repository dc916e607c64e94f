/- levenshtein.Calculate -/
import Derived.Test.YtmphoafjeojodaaDoorC
import Derived.Deep.DeepCutAuto
import Derived.Deep.CutBlock
namespace Go.Proofs.YtmphoafjeojodaaDoor
open Go.RowKit

def Same (x y : Nat → Int) (p : Nat) : Prop := ∀ n, n < p → x n = y n

def SameEnd (x y : Nat → Int) (l m q : Nat) : Prop := ∀ n, n < q → x (l - 1 - n) = y (m - 1 - n)
theorem SameEnd.snoc {x y : Nat → Int} {l m p : Nat} (h : SameEnd x y l m p) (e : x (l - 1 - p) = y (m - 1 - p)) : SameEnd x y l m (p + 1) := fun n hn => by
  by_cases hh : n = p
  · rw [hh]; exact e
  · exact h n (by omega)

theorem Same.snoc {x y : Nat → Int} {p : Nat} (h : Same x y p) (e : x p = y p) : Same x y (p + 1) := fun n hn => by
  by_cases hh : n = p
  · rw [hh]; exact e
  · exact h n (by omega)

theorem SameEnd.suf {x y : Nat → Int} {n1 n2 Q a b : Nat} (h : SameEnd x y n1 n2 Q) (ha : a + Q = n1) (hb : b + Q = n2)
    (hh : a = 0 ∨ b = 0 ∨ ∃ a1 b1 : Nat, (a : Int) - 1 = (a1 : Int) ∧ (b : Int) - 1 = (b1 : Int) ∧ x a1 ≠ y b1) : IsSuf x y n1 n2 Q := by
  refine ⟨by omega, by omega, h, ?_⟩
  rcases hh with rfl | rfl | ⟨a1, b1, h1, h2, h3⟩
  · exact .inl (by omega)
  · exact .inr (.inl (by omega))
  · refine .inr (.inr ?_)
    rw [show n1 - 1 - Q = a1 from by omega, show n2 - 1 - Q = b1 from by omega]
    exact h3
theorem SameEnd.next {x y : Nat → Int} {n1 n2 Q a b a1 b1 : Nat} (h : SameEnd x y n1 n2 Q) (ha : a + Q = n1) (hb : b + Q = n2)
    (h1 : (a : Int) - 1 = (a1 : Int)) (h2 : (b : Int) - 1 = (b1 : Int)) (e : x a1 = y b1) : SameEnd x y n1 n2 (Q + 1) := by
  refine h.snoc ?_
  rw [show n1 - 1 - Q = a1 from by omega, show n2 - 1 - Q = b1 from by omega]
  exact e

/-- the most is not asked, or leaves room for all that lies between the common beginning and end -/
def Roomy (x y : Nat → Int) (l1 l2 : Nat) (m p q o : Int) : Prop := m = 0 ∨ (p = 1 ∧ q = 1 ∧ o = 1 ∧ 0 < m ∧ m ≤ 1000000 ∧
  ∀ P Q : Nat, IsPre x y l1 l2 P → IsSuf (fun n => x (P + n)) (fun n => y (P + n)) (l1 - P) (l2 - P) Q → ((l2 - P - Q : Nat) : Int) ≤ m)
/-- what the call tells -/
def Told (x y : Nat → Int) (p q o : Int) (l1 l2 : Nat) (e : Ending) : Prop := ∃ P Q : Nat, e = .returned (.tuple #[.int .i64 (ed x y p q o l1 l2), .int .i64 P, .int .i64 Q]) ∧
  IsPre x y l1 l2 P ∧ IsSuf (fun n => x (P + n)) (fun n => y (P + n)) (l1 - P) (l2 - P) Q

theorem told_of {x y : Nat → Int} {p q o : Int} {l1 l2 P Q n1 n2 a b : Nat} {d : Int} (hp : 0 ≤ p) (hq : 0 ≤ q) (ho : 0 ≤ o) (HP : IsPre x y l1 l2 P) (HN1 : n1 = l1 - P) (HN2 : n2 = l2 - P)
    (HQ : IsSuf (fun n => x (P + n)) (fun n => y (P + n)) n1 n2 Q) (ha : a + Q = n1) (hb : b + Q = n2) (hd : d = ed (fun n => x (P + n)) (fun n => y (P + n)) p q o a b) :
    Told x y p q o l1 l2 (.returned (.tuple #[.int .i64 d, .int .i64 P, .int .i64 Q])) := by
  subst HN1 HN2
  have := ed_mid x y p q o hp hq ho l1 l2 P Q HP HQ
  rw [show l1 - P - Q = a from by omega, show l2 - P - Q = b from by omega] at this
  rw [hd, ← this]
  exact ⟨P, Q, rfl, HP, HQ⟩

/-- two rows of letters, the shorter one ahead, with the costs that go with them: what turning one into the other costs -/
def Swp (w : World) (D q : Int) (s0 s1 s3 s5 s15 s16 : Value) : Prop := ∃ (bu ou nu cu bv ov nv cv : Nat) (u v : Nat → Int) (i d : Int),
  s0 = .slice (some ⟨bu, ou, none⟩) nu cu ∧ s1 = .slice (some ⟨bv, ov, none⟩) nv cv ∧ s3 = .int .i64 i ∧ s5 = .int .i64 d ∧ s15 = .int .i64 nu ∧ s16 = .int .i64 nv ∧
  Rin w bu ou nu u ∧ Rin w bv ov nv v ∧ bu < w.heap.size ∧ bv < w.heap.size ∧ nu ≤ 60 ∧ nv ≤ 60 ∧ 0 ≤ i ∧ i ≤ 5 ∧ 0 ≤ d ∧ d ≤ 5 ∧ D = ed v u d q i nv nu

/-- the row's first k numbers are the costs of as many letters -/
def Fill (d : Int) (k : Nat) (f : Nat → Int) : Prop := ∀ j, j < k → f j = (j : Int) * d
theorem Fill.one (d : Int) : Fill d 1 (fun _ => 0) := fun j hj => by
  obtain rfl : j = 0 := by omega
  simp
theorem Fill.snoc {d : Int} {k : Nat} {f : Nat → Int} (h : Fill d k f) : Fill d (k + 1) (fun j => if j = k then (k : Int) * d else f j) := fun j hj => by
  show (if j = k then _ else _) = _
  by_cases e : j = k
  · rw [if_pos e, e]
  · rw [if_neg e]; exact h j (by omega)
theorem Full.start2 {x y : Nat → Int} {p q o : Int} {n i : Nat} {f : Nat → Int} (h : Full x y p q o n i f) :
    Half x y p q o n i 0 (fun j => if j = 0 then f 0 + o else f j) ∧ IsEd x y p q o i 0 (f 0) := by
  have h0 := h 0 (by omega)
  have e : f 0 + o = ((i : Int) + 1) * o := by rw [h0, ed_r0, Int.add_mul]; simp
  rw [e]
  exact h.start

theorem Half.old {x y : Nat → Int} {p q o : Int} {n i k : Nat} {f : Nat → Int} (h : Half x y p q o n i k f) (hk : k < n) : IsEd x y p q o i (k + 1) (f (k + 1)) := h.2 (k + 1) (by omega) (by omega)
theorem Full.bounds {x y : Nat → Int} {p q o : Int} {n i : Nat} {f : Nat → Int} (h : Full x y p q o n i f) (ha : 0 ≤ p ∧ p ≤ 5) (ht : 0 ≤ q ∧ q ≤ 5) (ho : 0 ≤ o ∧ o ≤ 5) (hn : n ≤ 60) (hi : i ≤ 60) (j : Nat) (hj : j ≤ n) :
    0 ≤ f j ∧ f j ≤ 1000 := by
  rw [h j hj]; exact ed_bound x y ha ht ho _ _ (by omega) (by omega)

set_option maxRecDepth 100000 in
set_option maxHeartbeats 3200000 in
theorem calc_any (bx ox l1 c1 : Nat) (x : Nat → Int) (b_y oy l2 c2 : Nat) (y : Nat → Int) (m p q o : Int) (w : World) (h1 : l1 ≤ 60) (h2 : l2 ≤ 60) (hc1 : l1 ≤ c1) (hc2 : l2 ≤ c2)
    (hx : Rin w bx ox l1 x) (hy : Rin w b_y oy l2 y) (hm : Roomy x y l1 l2 m p q o) (hp : 0 ≤ p ∧ p ≤ 5) (hq : 0 ≤ q ∧ q ≤ 5) (ho : 0 ≤ o ∧ o ≤ 5) :
    Calls Tryd.prog 26 #[.slice (some ⟨bx, ox, none⟩) l1 c1, .slice (some ⟨b_y, oy, none⟩) l2 c2, .int .i64 m, .int .i64 p, .int .i64 q, .int .i64 o] w fun e w' =>
      Told x y p q o l1 l2 e ∧ Below w.heap.size w w' := by
  go_enter Tryd.func26, Tryd.ntmps26
  go_upto_block 0 with fail
  have hxl : 0 < l1 → bx < w.heap.size := fun h => hx.lt h
  have hyl : 0 < l2 → b_y < w.heap.size := fun h => hy.lt h
  go_cut [13] (fun s wx => ∃ P : Nat, s = .int .i64 P ∧ IsPre x y l1 l2 P ∧ Below w.heap.size w wx)
  case first =>
    go_wp2_with fail
    go_loopw [13] (fun s wr => ∃ P : Nat, P ≤ l1 ∧ P ≤ l2 ∧ s = .int .i64 P ∧ Same x y P ∧ Below w.heap.size w wr) (fun s _ => l1 - (intOf s).toNat)
    case atStart => exact ⟨0, by omega, by omega, rfl, fun n hn => by omega, Below.refl _ _⟩
    case round =>
      obtain ⟨P, hP1, hP2, rfl, HS, hnx⟩ := hrel
      rcases (show (P < l1 ∧ P < l2) ∨ ¬ P < l1 ∨ (P < l1 ∧ ¬ P < l2) from by omega) with ⟨g1, g2⟩ | g1 | ⟨g1, g2⟩
      · have hcx := (hx.below (hxl (by omega)) hnx) P g1
        have hcy := (hy.below (hyl (by omega)) hnx) P g2
        go_wp2
        go_region
        all_goals go_wp2
        · go_meet
          have e : (x P != y P) = true := by assumption
          exact ⟨P, rfl, ⟨hP1, hP2, HS, .inr (.inr (by simpa using e))⟩, hnx.drew⟩
        · go_roundw
          have e : (x P != y P) = false := by assumption
          case rel => exact ⟨P + 1, by omega, by omega, by go_num, HS.snoc (by simpa using e), hnx.drew⟩
          case measure => simp [intOf]; omega
      · go_wp2
        go_meet
        exact ⟨P, rfl, ⟨hP1, hP2, HS, by omega⟩, hnx⟩
      · go_wp2
        go_meet
        exact ⟨P, rfl, ⟨hP1, hP2, HS, by omega⟩, hnx⟩
  case rest =>
    obtain ⟨P, rfl, HP, hB⟩ := hcut
    have hP1 := HP.1
    have hP2 := HP.2.1
    obtain ⟨ox1, hox1, hs1⟩ := slice_from bx ox l1 c1 P hP1 hc1
    obtain ⟨oy1, hoy1, hs2⟩ := slice_from b_y oy l2 c2 P hP2 hc2
    obtain ⟨n1, hn1⟩ : ∃ n1, n1 = l1 - P := ⟨_, rfl⟩
    obtain ⟨n2, hn2⟩ : ∃ n2, n2 = l2 - P := ⟨_, rfl⟩
    obtain ⟨d1, hd1⟩ : ∃ d1, d1 = c1 - P := ⟨_, rfl⟩
    obtain ⟨d2, hd2⟩ : ∃ d2, d2 = c2 - P := ⟨_, rfl⟩
    rw [← hn1, ← hd1] at hs1
    rw [← hn2, ← hd2] at hs2
    have hm1 : (l1 : Int) - (P : Int) = (n1 : Int) := by omega
    have hm2 : (l2 : Int) - (P : Int) = (n2 : Int) := by omega
    have hx1 : Rin w bx ox1 n1 (fun n => x (P + n)) := fun i hi => by
      have := hx (P + i) (by omega)
      rw [hox1 (by omega), Nat.add_assoc]; exact this
    have hy1 : Rin w b_y oy1 n2 (fun n => y (P + n)) := fun i hi => by
      have := hy (P + i) (by omega)
      rw [hoy1 (by omega), Nat.add_assoc]; exact this
    have HN1 : Hid (n1 = l1 - P) := hn1
    have HN2 : Hid (n2 = l2 - P) := hn2
    have HD1 : Hid (d1 = c1 - P) := hd1
    have HD2 : Hid (d2 = c2 - P) := hd2
    have g1 : n1 ≤ 60 := by omega
    have g2 : n2 ≤ 60 := by omega
    have g3 : n1 ≤ d1 := by omega
    have g4 : n2 ≤ d2 := by omega
    have g5 : 0 < n1 → bx < w.heap.size := fun h => hxl (by omega)
    have g6 : 0 < n2 → b_y < w.heap.size := fun h => hyl (by omega)
    clear hn1 hn2 hd1 hd2 hox1 hoy1 hxl hyl hc1 hc2
    go_wp2
    go_region
    clear hs1 hs2
    go_upto_block 2 with fail
    go_cut [0, 1, 14, 15, 16] (fun s0 s1 s14 s15 s16 wx => ∃ Q a b : Nat, a + Q = n1 ∧ b + Q = n2 ∧ s14 = .int .i64 Q ∧ s15 = .int .i64 a ∧ s16 = .int .i64 b ∧
      IsSuf (fun n => x (P + n)) (fun n => y (P + n)) n1 n2 Q ∧ Below w.heap.size w wx ∧ (a = 0 ∨ b = 0 ∨ (s0 = .slice (some ⟨bx, ox1, none⟩) a d1 ∧ s1 = .slice (some ⟨b_y, oy1, none⟩) b d2)))
    case first =>
      have hB1 := hB.drew
      go_wp2_with fail
      go_loopw [0, 1, 14, 15, 16] (fun s0 s1 s14 s15 s16 wr => ∃ Q a b : Nat, a + Q = n1 ∧ b + Q = n2 ∧ s0 = .slice (some ⟨bx, ox1, none⟩) n1 d1 ∧ s1 = .slice (some ⟨b_y, oy1, none⟩) n2 d2 ∧ s14 = .int .i64 Q ∧ s15 = .int .i64 a ∧ s16 = .int .i64 b ∧
        SameEnd (fun n => x (P + n)) (fun n => y (P + n)) n1 n2 Q ∧ Below w.heap.size w wr) (fun _ _ _ s _ _ => (intOf s).toNat)
      case atStart => exact ⟨0, n1, n2, rfl, rfl, rfl, rfl, rfl, rfl, rfl, fun n hn => by omega, hB1⟩
      case round =>
        clear hB hB1
        obtain ⟨Q, a, b, ha, hb, rfl, rfl, rfl, rfl, rfl, HS, hnx⟩ := hrel
        have HA : Hid (a + Q = n1) := ha
        have HB : Hid (b + Q = n2) := hb
        have ga : a ≤ n1 := by omega
        have gb : b ≤ n2 := by omega
        have gq : Q ≤ 60 := by omega
        clear ha hb
        rcases (show (0 < a ∧ 0 < b) ∨ ¬ 0 < a ∨ (0 < a ∧ ¬ 0 < b) from by omega) with ⟨h0a, h0b⟩ | h0a | ⟨h0a, h0b⟩
        · obtain ⟨a1, ha1⟩ : ∃ a1 : Nat, (a : Int) - 1 = (a1 : Int) := ⟨a - 1, by omega⟩
          obtain ⟨b1, hb1⟩ : ∃ b1 : Nat, (b : Int) - 1 = (b1 : Int) := ⟨b - 1, by omega⟩
          have hcx : wr.cell? ⟨bx, ox1 + a1, none⟩ = some (.int .i32 (x (P + a1))) := (hx1.below (g5 (by omega)) hnx) a1 (by omega)
          have hcy : wr.cell? ⟨b_y, oy1 + b1, none⟩ = some (.int .i32 (y (P + b1))) := (hy1.below (g6 (by omega)) hnx) b1 (by omega)
          have hlx : (a1 : Int) < (n1 : Int) := by omega
          have hly : (b1 : Int) < (n2 : Int) := by omega
          have hst1 := slice_to bx ox1 n1 d1 a (by omega)
          have hst2 := slice_to b_y oy1 n2 d2 b (by omega)
          go_wp2
          go_region
          go_wp2
          · go_region
            go_wp2
            go_meet
            have e : (x (P + a1) != y (P + b1)) = true := by assumption
            exact ⟨Q, a, b, HA.out, HB.out, rfl, rfl, rfl, HS.suf HA.out HB.out (.inr (.inr ⟨a1, b1, ha1, hb1, by simpa using e⟩)), hnx.drew.drew, .inr (.inr ⟨rfl, rfl⟩)⟩
          · go_roundw
            have e : (x (P + a1) != y (P + b1)) = false := by assumption
            case rel => exact ⟨Q + 1, a1, b1, by have := HA.out; omega, by have := HB.out; omega, rfl, rfl, by go_num, rfl, rfl, HS.next HA.out HB.out ha1 hb1 (by simpa using e), hnx.drew⟩
            case measure => simp [intOf]; omega
        · go_wp2
          go_meet
          exact ⟨Q, a, b, HA.out, HB.out, rfl, rfl, rfl, HS.suf HA.out HB.out (.inl (by omega)), hnx, .inl (by omega)⟩
        · go_wp2
          go_meet
          exact ⟨Q, a, b, HA.out, HB.out, rfl, rfl, rfl, HS.suf HA.out HB.out (.inr (.inl (by omega))), hnx, .inr (.inl (by omega))⟩
    case rest =>
      clear hB
      obtain ⟨Q, a, b, ha, hb, rfl, rfl, rfl, HQ, hB, hsl⟩ := hcut
      have HA : Hid (a + Q = n1) := ha
      have HB : Hid (b + Q = n2) := hb
      have ga : a ≤ n1 := by omega
      have gb : b ≤ n2 := by omega
      have gq : Q ≤ 60 := by omega
      have hroom := hm
      clear hm ha hb
      by_cases ha0 : a = 0
      · subst ha0
        have hbp := mul_bound (k := (b : Int)) (N := 100) (by omega) (by omega) hp
        have HT := told_of (d := (b : Int) * p) hp.1 hq.1 ho.1 HP HN1.out HN2.out HQ HA.out HB.out (by rw [ed_0])
        go_wp2
        go_ret3
        exact ⟨HT, hB⟩
      · by_cases hb0 : b = 0
        · subst hb0
          have hbp := mul_bound (k := (a : Int)) (N := 100) (by omega) (by omega) ho
          have HT := told_of (d := (a : Int) * o) hp.1 hq.1 ho.1 HP HN1.out HN2.out HQ HA.out HB.out (by rw [ed_r0])
          go_wp2
          go_ret3
          exact ⟨HT, hB⟩
        · obtain ⟨rfl, rfl⟩ : _ ∧ _ := by
            rcases hsl with h | h | h
            · exact absurd h ha0
            · exact absurd h hb0
            · exact h
          have g5b := g5 (by omega)
          have g6b := g6 (by omega)
          have hx2 : Rin w bx ox1 a (fun n => x (P + n)) := fun i hi => hx1 i (by omega)
          have hy2 : Rin w b_y oy1 b (fun n => y (P + n)) := fun i hi => hy1 i (by omega)
          have hroom2 : m = 0 ∨ (p = 1 ∧ q = 1 ∧ o = 1 ∧ 0 < m ∧ m ≤ 1000000 ∧ (b : Int) ≤ m) := by
            rcases hroom with h | ⟨e1, e2, e3, e4, e5, e6⟩
            · exact .inl h
            · refine .inr ⟨e1, e2, e3, e4, e5, ?_⟩
              have := e6 P Q HP (by rw [← HN1.out, ← HN2.out]; exact HQ)
              have k1 := HB.out
              have k2 := HN2.out
              omega
          clear hroom hx1 hy1 hx hy hsl g5 g6
          go_upto_if 102 with fail
          go_cut [2] from 103 to 127 (fun s2 wx => s2 = .int .i64 0 ∧ Below w.heap.size w wx)
          case first =>
            rcases hroom2 with rfl | ⟨rfl, rfl, rfl, hm0, hm1, hm2⟩
            · go_wp2
              go_meet
              exact ⟨rfl, hB⟩
            · go_wp2
              go_meet
              exact ⟨rfl, hB⟩
          case rest =>
            clear hB
            obtain ⟨rfl, hB⟩ := hcut
            go_upto_if 349 with fail
            go_cut [0, 1, 3, 5, 15, 16] from 350 to 355 (fun s0 s1 s3 s5 s15 s16 wx => Swp w (ed (fun n => x (P + n)) (fun n => y (P + n)) p q o a b) q s0 s1 s3 s5 s15 s16 ∧ Below w.heap.size w wx)
            case first =>
              by_cases hgt : b < a
              · go_wp2
                go_meet
                exact ⟨⟨b_y, oy1, b, d2, bx, ox1, a, d1, _, _, o, p, rfl, rfl, rfl, rfl, rfl, rfl, hy2, hx2, g6b, g5b, by omega, by omega, ho.1, ho.2, hp.1, hp.2, rfl⟩, hB⟩
              · go_wp2
                go_meet
                exact ⟨⟨bx, ox1, a, d1, b_y, oy1, b, d2, _, _, p, o, rfl, rfl, rfl, rfl, rfl, rfl, hx2, hy2, g5b, g6b, by omega, by omega, hp.1, hp.2, ho.1, ho.2, ed_swap _ _ _ _ _ _ _⟩, hB⟩
            case rest =>
              clear hB
              obtain ⟨⟨bu, ou, nu, cu, bv, ov, nv, cv, u, v, i, d, rfl, rfl, rfl, rfl, rfl, rfl, hu, hv, hbu, hbv, hnu, hnv, hi1, hi2, hd1, hd2, HD⟩, hB⟩ := hcut
              have HT := told_of hp.1 hq.1 ho.1 HP HN1.out HN2.out HQ HA.out HB.out rfl
              rw [HD] at HT
              clear HD hx2 hy2 g5b g6b hroom2 ga gb ha0 hb0 HP HQ HN1 HN2 HA HB HD1 HD2 hm1 hm2 h1 h2 hP1 hP2 g1 g2 g3 g4
              have hi := And.intro hi1 hi2
              have hd := And.intro hd1 hd2
              obtain ⟨i0, hti, hz0, hz1, hz2⟩ := info_parts info3
              have hsz := hB.size
              go_wp2_with (at_make; refine wpList_make_full _ rfl _ _ 70 rfl wc.heap.size 3 i0 (.int .i64 0) 1 Tryd.underlying70 hti hz0 hz1 _ _ _ _ (nu + 1) rfl rfl (by omega) (by omega) ?b2 ?b3 ?b4 ?_)
              case b2 => rw [hz2]; omega
              case b3 => unfold maxLen; omega
              case b4 => exact Nat.le_refl _
              intro w0 hown0 hgrow0
              clear hti hz0 hz1 hz2 i0
              have hr0 := irow_of_own hown0
              have hB0 := hB.grown hgrow0 hsz (fun k h => by cases h)
              clear hgrow0 hown0 hB
              go_wp2
              go_loopw [17] (fun s wr => ∃ k : Nat, 1 ≤ k ∧ k ≤ nu + 1 ∧ s = .int .i64 k ∧ (∃ f, Irow wr wc.heap.size (nu + 1) f ∧ Fill d k f) ∧ Below w.heap.size w wr) (fun s _ => nu + 1 - (intOf s).toNat)
              case atStart => exact ⟨1, by omega, by omega, rfl, ⟨_, hr0, Fill.one d⟩, hB0⟩
              case round =>
                clear hr0 hB0
                obtain ⟨k, hk1, hk, rfl, ⟨f, hf, HF⟩, hnx⟩ := hrel
                by_cases hlt : k ≤ nu
                · have hkd := mul_bound (k := (k : Int)) (N := 100) (by omega) (by omega) hd
                  have hc := hf.1 k (by omega)
                  have hfr := hf.2 k (by omega)
                  go_wp2
                  go_roundw
                  case rel => exact ⟨k + 1, by omega, by omega, by go_num, ⟨_, hf.set k _ (fun j => rfl), HF.snoc⟩, hnx.setCell (p := ⟨wc.heap.size, k, none⟩) (by omega) _⟩
                  case measure => simp [intOf]; omega
                · have HU : Full v u d q i nu 0 f := fun j hj => by rw [ed_0]; exact HF j (by omega)
                  clear HF
                  go_wp2
                  go_loopw [26] (fun s wr => ∃ X : Nat, X ≤ nv ∧ s = .int .i64 X ∧ (∃ f, Irow wr wc.heap.size (nu + 1) f ∧ Full v u d q i nu X f) ∧ Below w.heap.size w wr) (fun s _ => nv - (intOf s).toNat)
                  case atStart => exact ⟨0, by omega, rfl, ⟨_, hf, HU⟩, hnx⟩
                  case round =>
                    clear HU hf hnx hlt hk hk1
                    obtain ⟨X, hX, rfl, ⟨g, hg, HG⟩, hnx⟩ := hrel
                    by_cases hXl : X < nv
                    · have hcv : wr.cell? ⟨bv, ov + X, none⟩ = some (.int .i32 (v X)) := (hv.below hbv hnx) X hXl
                      obtain ⟨hh, hl⟩ := HG.start2
                      have hc0 := hg.1 0 (by omega)
                      have hf0 := hg.2 0 (by omega)
                      have hb0 := (HG.bounds hd hq hi (by omega) (by omega) 0 (by omega))
                      have hg1 := hg.set 0 (g 0 + i) (fun j => rfl)
                      have hnx1 := hnx.setCell (p := ⟨wc.heap.size, 0, none⟩) (by omega) (.int .i64 (g 0 + i))
                      go_wp2
                      go_region
                      go_wp2
                      go_loopw [17, 18] (fun s l wr => ∃ k : Nat, k ≤ nu ∧ s = .int .i64 k ∧ (∃ z, l = .int .i64 z ∧ IsEd v u d q i X k z) ∧ (∃ f, Irow wr wc.heap.size (nu + 1) f ∧ Half v u d q i nu X k f) ∧ Below w.heap.size w wr) (fun s _ _ => nu - (intOf s).toNat)
                      case atStart => exact ⟨0, by omega, rfl, ⟨_, rfl, hl⟩, ⟨_, hg1.drew, hh⟩, hnx1.drew⟩
                      case round =>
                        clear hcv hh hl hc0 hf0 hb0 hg1 hnx1 hg HG hnx
                        obtain ⟨k, hk, rfl, ⟨z, rfl, hz⟩, ⟨f, hf, HH⟩, hnx⟩ := hrel
                        by_cases hkl : k < nu
                        · have hcv : wr.cell? ⟨bv, ov + X, none⟩ = some (.int .i32 (v X)) := (hv.below hbv hnx) X hXl
                          have hcu : wr.cell? ⟨bu, ou + k, none⟩ = some (.int .i32 (u k)) := (hu.below hbu hnx) k hkl
                          have hc1 := hf.1 k (by omega)
                          have hfr1 := hf.2 k (by omega)
                          have hc2 := hf.1 (k + 1) (by omega)
                          have hfr := hf.2 (k + 1) (by omega)
                          have b1 := HH.bounds hd hq hi (by omega) (by omega) k (by omega)
                          have b2 := HH.bounds hd hq hi (by omega) (by omega) (k + 1) (by omega)
                          have b3 := hz.bounds hd hq hi (by omega) (by omega)
                          go_wp2
                          go_region
                          go_wp2
                          all_goals
                            go_roundw
                            case rel =>
                              refine ⟨k + 1, by omega, by go_num, ⟨_, rfl, HH.old hkl⟩, ⟨_, (hf.set (k + 1) _ (fun j => rfl)).drew, ?_⟩, (hnx.setCell (p := ⟨wc.heap.size, k + 1, none⟩) (by omega) _).drew⟩
                              refine (HH.step hz hkl ?_).1
                              by_cases hxy : v X = u k
                              · rw [if_pos hxy]
                                first
                                  | omega
                                  | (exfalso; have e : (u k != v X) = true := by assumption
                                     simp [hxy] at e)
                              · rw [if_neg hxy]
                                first
                                  | omega
                                  | (exfalso; have e : (u k != v X) = false := by assumption
                                     simp at e; exact hxy e.symm)
                            case measure => simp [intOf]; omega
                        · have hke : k = nu := by omega
                          subst hke
                          have HS := HH.stop
                          clear HH hz
                          go_wp2
                          go_roundw
                          case rel => exact ⟨X + 1, by omega, by go_num, ⟨_, hf, HS⟩, hnx⟩
                          case measure => simp [intOf]; omega
                    · have hXe : X = nv := by omega
                      subst hXe
                      have hc := hg.1 nu (by omega)
                      rw [← HG nu (by omega)] at HT
                      clear HG
                      go_wp2
                      go_ret3
                      exact ⟨HT, hnx⟩
end Go.Proofs.YtmphoafjeojodaaDoor

/- levenshtein.Calculate where the most asked leaves room, or is one less than what lies between the common beginning and end -/
import Derived.Test.YtmphoafjeojodaaKb
import Derived.Test.YtmphoafjeojodaaFl
namespace Go.Proofs.Ytmphoafjeojodaa
open Go.RowKit

/-- the most is not asked, or it is at least what lies between, or one less and still no less than the distance -/
def Bound (x y : Nat → Int) (l1 l2 : Nat) (mm : Nat) : Prop := mm = 0 ∨ (mm ≤ 60 ∧ ∃ P Q R : Nat, IsPre x y l1 l2 P ∧ IsSuf (fun n => x (P + n)) (fun n => y (P + n)) (l1 - P) (l2 - P) Q ∧ R + P + Q = max l1 l2 ∧
  (R ≤ mm ∨ (R = mm + 1 ∧ ed x y 1 1 1 l1 l2 ≤ mm)))

theorem ed_rest {x y : Nat → Int} {l1 l2 P Q R : Nat} (HP : IsPre x y l1 l2 P) (HQ : IsSuf (fun n => x (P + n)) (fun n => y (P + n)) (l1 - P) (l2 - P) Q) (hR : R + P + Q = max l1 l2) : ed x y 1 1 1 l1 l2 ≤ R := by
  have h := ed_mid x y 1 1 1 (by omega) (by omega) (by omega) l1 l2 P Q HP HQ
  have h2 := ed_le_max (fun n => x (P + n)) (fun n => y (P + n)) (l1 - P - Q) (l2 - P - Q)
  have h3 := HQ.1
  have h4 := HQ.2.1
  have h5 := HP.1
  have h6 := HP.2.1
  omega

theorem calc_least (bx ox l1 c1 : Nat) (x : Nat → Int) (b_y oy l2 c2 : Nat) (y : Nat → Int) (mm : Nat) (w : World) (h1 : l1 ≤ 60) (h2 : l2 ≤ 60) (hc1 : l1 ≤ c1) (hc2 : l2 ≤ c2)
    (hx : Rin w bx ox l1 x) (hy : Rin w b_y oy l2 y) (hm : Bound x y l1 l2 mm) :
    Calls Try.prog 35 #[.slice (some ⟨bx, ox, none⟩) l1 c1, .slice (some ⟨b_y, oy, none⟩) l2 c2, .int .i64 mm, .int .i64 1, .int .i64 1, .int .i64 1] w fun e w' =>
      Told x y 1 1 1 l1 l2 e ∧ Below w.heap.size w w' := by
  rcases hm with h | ⟨hm60, P, Q, R, HP, HQ, hR, h⟩
  · subst h
    exact calc_any bx ox l1 c1 x b_y oy l2 c2 y 0 1 1 1 w h1 h2 hc1 hc2 hx hy (.inl rfl) (by omega) (by omega) (by omega)
  · by_cases h0 : mm = 0
    · subst h0
      exact calc_any bx ox l1 c1 x b_y oy l2 c2 y 0 1 1 1 w h1 h2 hc1 hc2 hx hy (.inl rfl) (by omega) (by omega) (by omega)
    · have g1 := HP.1
      have g2 := HP.2.1
      have g3 := HQ.1
      have g4 := HQ.2.1
      by_cases h3 : l2 - P - Q ≤ mm
      · refine calc_any bx ox l1 c1 x b_y oy l2 c2 y mm 1 1 1 w h1 h2 hc1 hc2 hx hy (.inr ⟨rfl, rfl, rfl, by omega, by omega, fun P' Q' HP' HQ' => ?_⟩) (by omega) (by omega) (by omega)
        obtain rfl : P = P' := HP.uniq HP'
        obtain rfl : Q = Q' := HQ.uniq HQ'
        omega
      · rcases h with h | ⟨h, hd⟩
        · omega
        · refine calc_band bx ox l1 c1 x b_y oy l2 c2 y mm 1 1 1 w h1 h2 hc1 hc2 hx hy ⟨rfl, rfl, rfl, by omega, hm60, hd, fun P' Q' HP' HQ' => ?_⟩ (by omega) (by omega) (by omega)
          obtain rfl : P = P' := HP.uniq HP'
          obtain rfl : Q = Q' := HQ.uniq HQ'
          omega
end Go.Proofs.Ytmphoafjeojodaa

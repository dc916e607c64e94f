/- FnCapped: the walk -/
import Derived.Test.YtmphoafjeojodaaM
import Derived.Test.YtmphoafjeojodaaH
namespace Go.Proofs.Ytmphoafjeojodaa
open Go.RowKit

theorem roomy_of {x y : Nat → Int} {l1 l2 P Q R : Nat} {m : Int} (HP : IsPre x y l1 l2 P) (HQ : IsSuf (fun n => x (P + n)) (fun n => y (P + n)) (l1 - P) (l2 - P) Q)
    (hR : R + P + Q = max l1 l2) (hm : (R : Int) ≤ m) (h0 : 0 < m) (h1 : m ≤ 1000000) : Roomy x y l1 l2 m 1 1 1 := by
  refine .inr ⟨rfl, rfl, rfl, h0, h1, fun P' Q' HP' HQ' => ?_⟩
  obtain rfl : P = P' := HP.uniq HP'
  obtain rfl : Q = Q' := HQ.uniq HQ'
  have q1 := HQ.1
  have q2 := HQ.2.1
  omega

set_option maxRecDepth 100000 in
set_option maxHeartbeats 1600000 in
theorem law_capped (a0 : Option Addr) (len0 cap0 : Nat) (z0 : List Int) (a1 : Option Addr) (len1 cap1 : Nat) (z1 : List Int) (n : Int) (w : World) (w0 : IsRow .u8 w a0 len0 cap0 z0) (w1 : IsRow .u8 w a1 len1 cap1 z1) (w2 : (Lit.int .u8 n).wf = true) :
    Calls Try.prog 5 #[.slice a0 len0 cap0, .slice a1 len1 cap1, .int .u8 n] w fun e w' => e = .returned (.bool true) ∧ Below w.heap.size w w' := by
  have hn := bounds_u8 w2
  have hn0 := hn.1
  have hn1 := hn.2
  rcases (show 2147483647 < len0 ∨ (¬ 2147483647 < len0 ∧ 2147483647 < len1) ∨ (¬ 2147483647 < len0 ∧ ¬ 2147483647 < len1) from by omega) with h | ⟨h, h2⟩ | ⟨h, h2⟩
  · go_enter Try.func5, Try.ntmps5
    go_wp2
    go_ret
    exact ⟨rfl, Below.refl _ _⟩
  · go_enter Try.func5, Try.ntmps5
    go_wp2
    go_ret
    exact ⟨rfl, Below.refl _ _⟩
  · go_enter Try.func5, Try.ntmps5
    go_wp2_with fail
    refine (near_any a0 len0 cap0 z0 a1 len1 cap1 z1 w w0 w1 (by omega) (by omega)).mono ?_
    rintro e w' ⟨x, y, rfl, hx, hy, hb⟩
    go_wp2_with fail
    refine (rest_any x y _ hx hy).mono ?_
    rintro e w2 ⟨⟨P, Q, R, rfl, HP, HQ, hR⟩, hb2⟩
    have s2 := hb.size
    have s3 := hb2.size
    by_cases hlt : 1 + n % 22 < (R : Int)
    · clear hR
      go_wp2_with fail
      refine (impl_dist ⟨#[97, 98]⟩ ⟨#[98]⟩ _ (by decide) (by decide)).mono ?_
      rintro e w5 ⟨rfl, hb5⟩
      rw [ab_b]
      go_wp2
      go_ret
      exact ⟨rfl, (hb.trans (hb2.mono s2)).trans (hb5.mono (by omega))⟩
    · have hroom : Roomy (rn x) (rn y) (rl x) (rl y) (1 + n % 22) 1 1 1 := roomy_of HP HQ hR (by omega) (by omega) (by omega)
      clear hR HP HQ
      go_wp2_with fail
      refine (capped_any x y _ _ hx hy (by omega) hroom).mono ?_
      rintro e w3 ⟨rfl, hb3⟩
      go_wp2_with fail
      refine (costs_any x y 1 1 1 _ hx hy (by omega) (by omega) (by omega)).mono ?_
      rintro e w4 ⟨rfl, hb4⟩
      go_wp2_with fail
      refine (impl_dist ⟨#[97, 98]⟩ ⟨#[98]⟩ _ (by decide) (by decide)).mono ?_
      rintro e w5 ⟨rfl, hb5⟩
      rw [ab_b]
      go_wp2
      go_ret
      have s4 := hb3.size
      have s5 := hb4.size
      exact ⟨rfl, (((hb.trans (hb2.mono s2)).trans (hb3.mono (by omega))).trans (hb4.mono (by omega))).trans (hb5.mono (by omega))⟩
end Go.Proofs.Ytmphoafjeojodaa

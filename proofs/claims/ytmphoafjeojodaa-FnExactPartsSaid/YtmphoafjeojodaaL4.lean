/- FnExactParts: the walk -/
import Derived.Test.YtmphoafjeojodaaG
namespace Go.Proofs.Ytmphoafjeojodaa
open Go.RowKit

set_option maxRecDepth 100000 in
set_option maxHeartbeats 1600000 in
theorem law_parts (a0 : Option Addr) (len0 cap0 : Nat) (z0 : List Int) (a1 : Option Addr) (len1 cap1 : Nat) (z1 : List Int) (w : World) (w0 : IsRow .u8 w a0 len0 cap0 z0) (w1 : IsRow .u8 w a1 len1 cap1 z1) :
    Calls Try.prog 4 #[.slice a0 len0 cap0, .slice a1 len1 cap1] w fun e w' => e = .returned (.bool true) ∧ Below w.heap.size w w' := by
  rcases (show 2147483647 < len0 ∨ (¬ 2147483647 < len0 ∧ 2147483647 < len1) ∨ (¬ 2147483647 < len0 ∧ ¬ 2147483647 < len1) from by omega) with h | ⟨h, h2⟩ | ⟨h, h2⟩
  · go_enter Try.func4, Try.ntmps4
    go_wp2
    go_ret
    exact ⟨rfl, Below.refl _ _⟩
  · go_enter Try.func4, Try.ntmps4
    go_wp2
    go_ret
    exact ⟨rfl, Below.refl _ _⟩
  · go_enter Try.func4, Try.ntmps4
    go_wp2_with fail
    refine (near_any a0 len0 cap0 z0 a1 len1 cap1 z1 w w0 w1 (by omega) (by omega)).mono ?_
    rintro e w' ⟨x, y, rfl, hx, hy, hb⟩
    go_wp2_with fail
    refine (parts_any x y _ hx hy).mono ?_
    rintro e w2 ⟨⟨P, Q, rfl, HP, HQ⟩, hb2⟩
    go_wp2_with fail
    refine (ends_any x y _ hx hy).mono ?_
    rintro e w3 ⟨⟨P', Q', rfl, HP', HQ'⟩, hb3⟩
    obtain rfl : P = P' := HP.uniq HP'
    obtain rfl : Q = Q' := HQ.uniq HQ'
    clear HP HQ HP' HQ'
    go_wp2_with fail
    refine (costs_any x y 1 1 1 _ hx hy (by omega) (by omega) (by omega)).mono ?_
    rintro e w4 ⟨rfl, hb4⟩
    go_wp2_with fail
    refine (impl_dist ⟨#[97, 98]⟩ ⟨#[98]⟩ _ (by decide) (by decide)).mono ?_
    rintro e w5 ⟨rfl, hb5⟩
    rw [ab_b]
    go_wp2
    go_ret
    have s2 := hb.size
    have s3 := hb2.size
    have s4 := hb3.size
    have s5 := hb4.size
    exact ⟨rfl, (((hb.trans (hb2.mono s2)).trans (hb3.mono (by omega))).trans (hb4.mono (by omega))).trans (hb5.mono (by omega))⟩
end Go.Proofs.Ytmphoafjeojodaa

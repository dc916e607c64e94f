/- FnExactLikeness: the walk -/
import Derived.Test.YtmphoafjeojodaaBo
namespace Go.Proofs.Ytmphoafjeojodaa
open Go.RowKit

set_option maxRecDepth 100000 in
set_option maxHeartbeats 1600000 in
theorem law_like (a0 : Option Addr) (len0 cap0 : Nat) (z0 : List Int) (a1 : Option Addr) (len1 cap1 : Nat) (z1 : List Int) (w : World) (w0 : IsRow .u8 w a0 len0 cap0 z0) (w1 : IsRow .u8 w a1 len1 cap1 z1) :
    Calls Try.prog 8 #[.slice a0 len0 cap0, .slice a1 len1 cap1] w fun e w' => e = .returned (.bool true) ∧ Below w.heap.size w w' := by
  rcases (show 2147483647 < len0 ∨ (¬ 2147483647 < len0 ∧ 2147483647 < len1) ∨ (¬ 2147483647 < len0 ∧ ¬ 2147483647 < len1) from by omega) with h | ⟨h, h2⟩ | ⟨h, h2⟩
  · go_enter Try.func8, Try.ntmps8
    go_wp2
    go_ret
    exact ⟨rfl, Below.refl _ _⟩
  · go_enter Try.func8, Try.ntmps8
    go_wp2
    go_ret
    exact ⟨rfl, Below.refl _ _⟩
  · go_enter Try.func8, Try.ntmps8
    go_wp2_with fail
    refine (near_any2 a0 len0 cap0 z0 a1 len1 cap1 z1 w w0 w1 (by omega) (by omega)).mono ?_
    rintro e w' ⟨x, y, rfl, hx, hy, hb⟩
    have hcl := (like_facts (dn x y) (ln x y) (ln_le hx hy) (dn_le x y)).2.1
    have hok := closeV_ok hcl
    have HCL : Hid (closeV (likeV (dn x y) (ln x y)) (likeV (dn x y) (ln x y)) = true) := hcl
    clear hcl
    go_wp2_with fail
    refine (ilike_any x y _ hx hy).mono ?_
    rintro e w2 ⟨rfl, hb2⟩
    go_wp2_with fail
    refine (slike_any x y _ hx hy).mono ?_
    rintro e w3 ⟨rfl, hb3⟩
    go_wp2_with fail
    refine (close_any _ _ _ hok.1 hok.2).mono ?_
    rintro e w4 ⟨rfl, rfl⟩
    rw [HCL.out]
    go_wp2_with fail
    refine (impl_dist ⟨#[97, 98]⟩ ⟨#[98]⟩ _ (by decide) (by decide)).mono ?_
    rintro e w5 ⟨rfl, hb5⟩
    rw [ab_b]
    go_wp2
    go_ret
    have s2 := hb.size
    have s3 := hb2.size
    have s4 := hb3.size
    exact ⟨rfl, ((hb.trans (hb2.mono s2)).trans (hb3.mono (by omega))).trans (hb5.mono (by omega))⟩
end Go.Proofs.Ytmphoafjeojodaa

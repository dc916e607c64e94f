/- FnExactCosts: the walk -/
import Derived.Test.YtmphoafjeojodaaH
namespace Go.Proofs.Ytmphoafjeojodaa
open Go.RowKit

theorem cost_any (n : Int) (w : World) (hn0 : 0 ≤ n) (hn1 : n ≤ 255) : Calls Try.prog 20 #[.int .u8 n] w fun e w' => e = .returned (.int .i64 (1 + n % 5)) ∧ w = w' := by
  go_enter Try.func20, Try.ntmps20
  go_wp2
  go_ret
  exact ⟨rfl, rfl⟩

set_option maxRecDepth 100000 in
set_option maxHeartbeats 1600000 in
theorem law_costs (a0 : Option Addr) (len0 cap0 : Nat) (z0 : List Int) (a1 : Option Addr) (len1 cap1 : Nat) (z1 : List Int) (i s d : Int) (w : World) (w0 : IsRow .u8 w a0 len0 cap0 z0) (w1 : IsRow .u8 w a1 len1 cap1 z1)
    (w2 : (Lit.int .u8 i).wf = true) (w3 : (Lit.int .u8 s).wf = true) (w4 : (Lit.int .u8 d).wf = true) :
    Calls Try.prog 6 #[.slice a0 len0 cap0, .slice a1 len1 cap1, .int .u8 i, .int .u8 s, .int .u8 d] w fun e w' => e = .returned (.bool true) ∧ Below w.heap.size w w' := by
  have hi := bounds_u8 w2
  have hs := bounds_u8 w3
  have hd := bounds_u8 w4
  rcases (show 2147483647 < len0 ∨ (¬ 2147483647 < len0 ∧ 2147483647 < len1) ∨ (¬ 2147483647 < len0 ∧ ¬ 2147483647 < len1) from by omega) with h | ⟨h, h2⟩ | ⟨h, h2⟩
  · go_enter Try.func6, Try.ntmps6
    go_wp2
    go_ret
    exact ⟨rfl, Below.refl _ _⟩
  · go_enter Try.func6, Try.ntmps6
    go_wp2
    go_ret
    exact ⟨rfl, Below.refl _ _⟩
  · go_enter Try.func6, Try.ntmps6
    go_wp2_with fail
    refine (near_any a0 len0 cap0 z0 a1 len1 cap1 z1 w w0 w1 (by omega) (by omega)).mono ?_
    rintro e w' ⟨x, y, rfl, hx, hy, hb⟩
    have s2 := hb.size
    go_wp2_with fail
    refine (cost_any i _ hi.1 hi.2).mono ?_
    rintro e w2 ⟨rfl, rfl⟩
    go_wp2_with fail
    refine (cost_any s _ hs.1 hs.2).mono ?_
    rintro e w2 ⟨rfl, rfl⟩
    go_wp2_with fail
    refine (cost_any d _ hd.1 hd.2).mono ?_
    rintro e w2 ⟨rfl, rfl⟩
    go_wp2_with fail
    refine (icosts_any x y _ _ _ _ hx hy (by omega) (by omega) (by omega)).mono ?_
    rintro e w3 ⟨rfl, hb3⟩
    go_wp2_with fail
    refine (costs_any x y _ _ _ _ hx hy (by omega) (by omega) (by omega)).mono ?_
    rintro e w4 ⟨rfl, hb4⟩
    go_wp2_with fail
    refine (impl_dist ⟨#[97, 98]⟩ ⟨#[98]⟩ _ (by decide) (by decide)).mono ?_
    rintro e w5 ⟨rfl, hb5⟩
    rw [ab_b]
    go_wp2
    go_ret
    have s4 := hb3.size
    have s5 := hb4.size
    exact ⟨rfl, ((hb.trans (hb3.mono s2)).trans (hb4.mono (by omega))).trans (hb5.mono (by omega))⟩
end Go.Proofs.Ytmphoafjeojodaa

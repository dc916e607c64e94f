/- FnExactBonus: the walk -/
import Derived.Test.YtmphoafjeojodaaBo
import Derived.Test.YtmphoafjeojodaaFb
namespace Go.Proofs.Ytmphoafjeojodaa
open Go.RowKit

set_option maxRecDepth 100000 in
set_option maxHeartbeats 3200000 in
theorem law_bonus (a0 : Option Addr) (len0 cap0 : Nat) (z0 : List Int) (a1 : Option Addr) (len1 cap1 : Nat) (z1 : List Int) (w : World) (w0 : IsRow .u8 w a0 len0 cap0 z0) (w1 : IsRow .u8 w a1 len1 cap1 z1) :
    Calls Try.prog 7 #[.slice a0 len0 cap0, .slice a1 len1 cap1] w fun e w' => e = .returned (.bool true) ∧ Below w.heap.size w w' := by
  rcases (show 2147483647 < len0 ∨ (¬ 2147483647 < len0 ∧ 2147483647 < len1) ∨ (¬ 2147483647 < len0 ∧ ¬ 2147483647 < len1) from by omega) with h | ⟨h, h2⟩ | ⟨h, h2⟩
  · go_enter Try.func7, Try.ntmps7
    go_wp2
    go_ret
    exact ⟨rfl, Below.refl _ _⟩
  · go_enter Try.func7, Try.ntmps7
    go_wp2
    go_ret
    exact ⟨rfl, Below.refl _ _⟩
  · go_enter Try.func7, Try.ntmps7
    go_wp2_with fail
    refine (near_any2 a0 len0 cap0 z0 a1 len1 cap1 z1 w w0 w1 (by omega) (by omega)).mono ?_
    rintro e w' ⟨x, y, rfl, hx, hy, hb⟩
    have hn := ln_le hx hy
    have hd := dn_le x y
    have hsub := bonus_sub (dn x y) (ln x y) hn hd
    have sx := hx.size
    have sy := hy.size
    go_wp2_with fail
    refine (slike_any x y _ hx hy).mono ?_
    rintro e w2 ⟨rfl, hb2⟩
    go_wp2_with fail
    refine (ends_any x y _ sx sy).mono ?_
    rintro e w3 ⟨⟨P, Q, rfl, HP, _⟩, hb3⟩
    obtain ⟨pm, hpm, hmin⟩ : ∃ pm : Nat, pm = min P 4 ∧ min (P : Int) 4 = (pm : Int) := ⟨_, rfl, by omega⟩
    have HPM : Hid (pm = min P 4) := hpm
    clear hpm
    obtain ⟨g, hg⟩ : ∃ g, (ford (likeV (dn x y) (ln x y)) C07 == some .gt) = g := ⟨_, rfl⟩
    have s2 := hb.size
    have s3 := hb2.size
    have s4 := hb3.size
    cases g
    · have HG : Hid ((ford (likeV (dn x y) (ln x y)) C07 == some .gt) = false) := hg
      unfold ford C07 at hg
      go_wp2_with fail
      refine (close_any _ C07 _ hsub.1 hsub.2).mono ?_
      rintro e w4 ⟨rfl, rfl⟩
      obtain ⟨c, hc⟩ : ∃ c, closeV (likeV (dn x y) (ln x y)) C07 = c := ⟨_, rfl⟩
      rw [hc]
      cases c
      · have HC : Hid (closeV (likeV (dn x y) (ln x y)) C07 = false) := hc
        clear hc
        go_wp2_with fail
        refine (ibonus_any x y _ hx hy (fun h p hp => bonus_ok _ _ p hn hd hp h)).mono ?_
        rintro e w5 ⟨⟨P', HP', rfl⟩, hb5⟩
        obtain rfl : P = P' := HP.uniq HP'
        have hcl := bonus_le (dn x y) (ln x y) P hn hd HG.out HC.out
        have HCL : Hid (closeV (matchV C07 (dn x y) (ln x y) P) (likeV (dn x y) (ln x y)) = true) := hcl
        have hok := closeV_ok hcl
        clear hcl
        go_wp2_with fail
        refine (close_any _ _ _ hok.1 hok.2).mono ?_
        rintro e w6 ⟨rfl, rfl⟩
        rw [HCL.out]
        go_wp2_with fail
        refine (impl_dist ⟨#[97, 98]⟩ ⟨#[98]⟩ _ (by decide) (by decide)).mono ?_
        rintro e w7 ⟨rfl, hb7⟩
        rw [ab_b]
        go_wp2
        go_ret
        have s5 := hb5.size
        exact ⟨rfl, (((hb.trans (hb2.mono s2)).trans (hb3.mono (by omega))).trans (hb5.mono (by omega))).trans (hb7.mono (by omega))⟩
      · clear hc
        go_wp2_with fail
        refine (impl_dist ⟨#[97, 98]⟩ ⟨#[98]⟩ _ (by decide) (by decide)).mono ?_
        rintro e w7 ⟨rfl, hb7⟩
        rw [ab_b]
        go_wp2
        go_ret
        exact ⟨rfl, ((hb.trans (hb2.mono s2)).trans (hb3.mono (by omega))).trans (hb7.mono (by omega))⟩
    · obtain ⟨hok, hcl⟩ := bonus_gt (dn x y) (ln x y) P hn hd hg
      rw [← HPM.out] at hok hcl
      have HCL : Hid (closeV (matchV C07 (dn x y) (ln x y) P) (bonusV (likeV (dn x y) (ln x y)) pm) = true) := hcl
      have hcok := closeV_ok hcl
      unfold bonusOk at hok
      simp only [Bool.and_eq_true, Bool.not_eq_true'] at hok
      obtain ⟨⟨⟨⟨k1, k2⟩, k3⟩, k4⟩, _⟩ := hok
      have r1 := run_fop k1 36
      have r2 := run_fop k2 36
      have r3 := run_fop k3 36
      have r4 := run_fop k4 36
      simp only [fl, C01, ONE] at r1 r2 r3 r4
      unfold ford C07 at hg
      clear hcl k1 k2 k3 k4
      go_wp2_with fail
      refine (close_any _ C07 _ hsub.1 hsub.2).mono ?_
      rintro e w4 ⟨rfl, rfl⟩
      clear r1 r2 r3 r4
      obtain ⟨c, hc⟩ : ∃ c, closeV (likeV (dn x y) (ln x y)) C07 = c := ⟨_, rfl⟩
      rw [hc]
      cases c
      · clear hc
        go_wp2_with fail
        refine (ibonus_any x y _ hx hy (fun h p hp => bonus_ok _ _ p hn hd hp h)).mono ?_
        rintro e w5 ⟨⟨P', HP', rfl⟩, hb5⟩
        obtain rfl : P = P' := HP.uniq HP'
        go_wp2_with fail
        refine (close_any _ (bonusV (likeV (dn x y) (ln x y)) pm) _ hcok.1 hcok.2).mono ?_
        rintro e w6 ⟨rfl, rfl⟩
        rw [HCL.out]
        go_wp2_with fail
        refine (impl_dist ⟨#[97, 98]⟩ ⟨#[98]⟩ _ (by decide) (by decide)).mono ?_
        rintro e w7 ⟨rfl, hb7⟩
        rw [ab_b]
        go_wp2
        go_ret
        have s5 := hb5.size
        exact ⟨rfl, (((hb.trans (hb2.mono s2)).trans (hb3.mono (by omega))).trans (hb5.mono (by omega))).trans (hb7.mono (by omega))⟩
      · clear hc
        go_wp2_with fail
        refine (impl_dist ⟨#[97, 98]⟩ ⟨#[98]⟩ _ (by decide) (by decide)).mono ?_
        rintro e w7 ⟨rfl, hb7⟩
        rw [ab_b]
        go_wp2
        go_ret
        exact ⟨rfl, ((hb.trans (hb2.mono s2)).trans (hb3.mono (by omega))).trans (hb7.mono (by omega))⟩
end Go.Proofs.Ytmphoafjeojodaa

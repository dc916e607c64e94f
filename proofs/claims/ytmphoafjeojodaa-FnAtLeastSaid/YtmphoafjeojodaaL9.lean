/- FnAtLeast: the walk -/
import Derived.Test.YtmphoafjeojodaaAl
namespace Go.Proofs.Ytmphoafjeojodaa
open Go.RowKit

theorem least_ok {a b : ByteArray} {t P Q R : Nat} (ha : Text20 a) (hb : Text20 b) (ht : t ≤ 10) (HP : IsPre (rn a) (rn b) (rl a) (rl b) P)
    (HQ : IsSuf (fun n => rn a (P + n)) (fun n => rn b (P + n)) (rl a - P) (rl b - P) Q) (hR : R + P + Q = max (rl a) (rl b)) (hr : 10 * R ≤ (10 - t) * ln a b) (hc : closeV (likeV (dn a b) (ln a b)) (tenthV t) = false) :
    Bound (rn a) (rn b) (rl a) (rl b) (mx t (ln a b)) ∧ (mx t (ln a b) = 0 ∨ dn a b ≤ mx t (ln a b)) := by
  have h1 := ed_rest HP HQ hR
  have h2 := dn_eq a b
  have hm := ln_le ha hb
  have h3 := (room_facts t (ln a b) ht hm).2.2.1
  rcases mx_room t (ln a b) (dn a b) R ht hm (by omega) hr hc with h | h | ⟨h, h4⟩
  · exact ⟨.inl h, .inl h⟩
  · exact ⟨.inr ⟨by omega, P, Q, R, HP, HQ, hR, .inl h⟩, .inr (by omega)⟩
  · exact ⟨.inr ⟨by omega, P, Q, R, HP, HQ, hR, .inr ⟨h, by omega⟩⟩, .inr h4⟩

set_option maxRecDepth 100000 in
set_option maxHeartbeats 1600000 in
theorem law_least (a0 : Option Addr) (len0 cap0 : Nat) (z0 : List Int) (a1 : Option Addr) (len1 cap1 : Nat) (z1 : List Int) (n : Int) (w : World) (w0 : IsRow .u8 w a0 len0 cap0 z0) (w1 : IsRow .u8 w a1 len1 cap1 z1) (w2 : (Lit.int .u8 n).wf = true) :
    Calls Try.prog 9 #[.slice a0 len0 cap0, .slice a1 len1 cap1, .int .u8 n] w fun e w' => e = .returned (.bool true) ∧ Below w.heap.size w w' := by
  have hn := bounds_u8 w2
  have hn0 := hn.1
  have hn1 := hn.2
  rcases (show 2147483647 < len0 ∨ (¬ 2147483647 < len0 ∧ 2147483647 < len1) ∨ (¬ 2147483647 < len0 ∧ ¬ 2147483647 < len1) from by omega) with h | ⟨h, h2⟩ | ⟨h, h2⟩
  · go_enter Try.func9, Try.ntmps9
    go_wp2
    go_ret
    exact ⟨rfl, Below.refl _ _⟩
  · go_enter Try.func9, Try.ntmps9
    go_wp2
    go_ret
    exact ⟨rfl, Below.refl _ _⟩
  · obtain ⟨t, hq, hq2, ht⟩ : ∃ t : Nat, n.tmod 11 = (t : Int) ∧ n % 11 = (t : Int) ∧ t ≤ 10 := ⟨(n % 11).toNat, by rw [Int.tmod_eq_emod_of_nonneg hn0]; omega, by omega, by omega⟩
    clear hn
    go_enter Try.func9, Try.ntmps9
    go_wp2_with fail
    refine (near_any2 a0 len0 cap0 z0 a1 len1 cap1 z1 w w0 w1 (by omega) (by omega)).mono ?_
    rintro e w' ⟨x, y, rfl, hx, hy, hb⟩
    obtain ⟨d, hd⟩ : ∃ d, d = dn x y := ⟨_, rfl⟩
    obtain ⟨m, hm⟩ : ∃ m, m = ln x y := ⟨_, rfl⟩
    obtain ⟨v, hv⟩ : ∃ v, v = likeV d m := ⟨_, rfl⟩
    obtain ⟨tv, htv⟩ : ∃ tv, tv = tenthV t := ⟨_, rfl⟩
    have hm20 : m ≤ 20 := by rw [hm]; exact ln_le hx hy
    have hdm : d ≤ m := by rw [hm, hd]; exact dn_le x y
    have sx := hx.size
    have sy := hy.size
    have hlike : ∀ W, Calls Try.prog 22 #[.string x, .string y] W fun e w' => e = .returned (.float .f64 v) ∧ Below W.heap.size W w' := fun W => by rw [hv, hd, hm]; exact slike_any x y W hx hy
    have hlong : ∀ W, Calls Try.prog 26 #[.string x, .string y] W fun e w' => e = .returned (.int .i64 m) ∧ Below W.heap.size W w' := fun W => by rw [hm]; exact longer_any x y W sx sy
    have hf := near_facts t m d ht hm20 hdm
    rw [← hv, ← htv] at hf
    have hclose : ∀ W, Calls Try.prog 23 #[.float .f64 v, .float .f64 tv] W fun e w' => e = .returned (.bool (closeV v tv)) ∧ W = w' := fun W => close_any v tv W hf.1 hf.2
    have hle := leastV_close t d m hm20 hdm
    have hok := closeV_ok hle
    have hclose2 : ∀ W, Calls Try.prog 23 #[.float .f64 (leastV t d m), .float .f64 (leastV t d m)] W fun e w' => e = .returned (.bool true) ∧ W = w' := fun W => by rw [← hle]; exact close_any _ _ W hok.1 hok.2
    have hat : ∀ (P Q R : Nat), IsPre (rn x) (rn y) (rl x) (rl y) P → IsSuf (fun n => rn x (P + n)) (fun n => rn y (P + n)) (rl x - P) (rl y - P) Q → R + P + Q = max (rl x) (rl y) → 10 * R ≤ (10 - t) * m → closeV v tv = false →
        ∀ W, Calls Try.prog 27 #[.string x, .string y, .int .i64 t] W fun e w' => e = .returned (.float .f64 (leastV t d m)) ∧ Below W.heap.size W w' := fun P Q R HP HQ hR hr hc W => by
      rw [hv, htv, hd, hm] at hc
      rw [hm] at hr
      obtain ⟨k1, k2⟩ := least_ok hx hy ht HP HQ hR hr hc
      rw [hd, hm]
      exact ileast_any x y t W hx hy ht k1 k2
    have r1 := run_fop (tenth_facts t ht).1 36
    have htv2 : tv = fop .quo (fl t) TEN := htv
    rw [← htv2] at r1
    unfold fl TEN at r1
    obtain ⟨c, hc⟩ : ∃ c, (FloatKind.f64.format.order v tv == some .lt) = c := ⟨_, rfl⟩
    have hlv : leastV t d m = if c = true then 0 else v := by
      unfold leastV ford
      rw [← hv, ← htv, hc]
    obtain ⟨s, hs⟩ : ∃ s, s = 10 - t := ⟨_, rfl⟩
    have hsub : (10 : Int) - (t : Int) = (s : Int) := by omega
    obtain ⟨pr, hpr⟩ : ∃ pr, pr = s * m := ⟨_, rfl⟩
    have hpr2 : (s : Int) * (m : Int) = (pr : Int) := by rw [hpr]; simp
    have hpr3 : pr ≤ 200 := by
      rw [hpr]
      calc s * m ≤ 10 * 20 := Nat.mul_le_mul (by omega) hm20
        _ = 200 := rfl
    have HPR : Hid (pr = (10 - t) * m) := by rw [← hs]; exact hpr
    have hs10 : s ≤ 10 := by omega
    have HLIKE := Lib.hid hlike
    have HLONG := Lib.hid hlong
    have HCLOSE := Lib.hid hclose
    have HCLOSE2 := Lib.hid hclose2
    have HAT := Lib.hid hat
    clear hlike hlong hclose hclose2 hat hf hle hok hd hm hv htv htv2 hs hpr
    generalize leastV t d m = lv at hlv HCLOSE2 HAT
    cases c
    all_goals
      simp only [if_true, Bool.false_eq_true, if_false] at hlv
      have hlv2 := hlv.symm
      clear hlv
      subst hlv2
      go_wp2_with fail
      refine (HLIKE.out _).mono ?_
      rintro e w3 ⟨rfl, hb3⟩
      go_wp2_with fail
      refine (HCLOSE.out _).mono ?_
      rintro e w4 ⟨rfl, rfl⟩
      obtain ⟨q, hq⟩ : ∃ q, q = closeV v tv := ⟨_, rfl⟩
      rw [← hq]
      have HQC := Lib.hid hq
      clear hq
      cases q
      · go_wp2_with fail
        refine (rest_any x y _ sx sy).mono ?_
        rintro e w5 ⟨⟨P, Q, R, rfl, HP, HQ, hR⟩, hb5⟩
        have HR := Lib.hid hR
        have hR60 : R ≤ 60 := by have := rl_le x; have := rl_le y; omega
        clear hR
        go_wp2_with fail
        refine (HLONG.out _).mono ?_
        rintro e w6 ⟨rfl, hb6⟩
        by_cases hgt : pr < 10 * R
        · go_wp2_with fail
          refine (impl_dist ⟨#[97, 98]⟩ ⟨#[98]⟩ _ (by decide) (by decide)).mono ?_
          rintro e w7 ⟨rfl, hb7⟩
          rw [ab_b]
          go_wp2
          go_ret
          have s1 := hb.size
          have s3 := hb3.size
          have s5 := hb5.size
          have s6 := hb6.size
          exact ⟨rfl, (((hb.trans (hb3.mono s1)).trans (hb5.mono (by omega))).trans (hb6.mono (by omega))).trans (hb7.mono (by omega))⟩
        · have hat := HAT.out P Q R HP HQ HR.out (by rw [← HPR.out]; omega) HQC.out.symm
          have HAT2 := Lib.hid hat
          clear hat HP HQ
          go_wp2_with fail
          refine (HAT2.out _).mono ?_
          rintro e w7 ⟨rfl, hb7⟩
          go_wp2_with fail
          refine (HCLOSE2.out _).mono ?_
          rintro e w8 ⟨rfl, rfl⟩
          go_wp2_with fail
          refine (impl_dist ⟨#[97, 98]⟩ ⟨#[98]⟩ _ (by decide) (by decide)).mono ?_
          rintro e w9 ⟨rfl, hb9⟩
          rw [ab_b]
          go_wp2
          go_ret
          have s1 := hb.size
          have s3 := hb3.size
          have s5 := hb5.size
          have s6 := hb6.size
          have s7 := hb7.size
          exact ⟨rfl, ((((hb.trans (hb3.mono s1)).trans (hb5.mono (by omega))).trans (hb6.mono (by omega))).trans (hb7.mono (by omega))).trans (hb9.mono (by omega))⟩
      · go_wp2_with fail
        refine (impl_dist ⟨#[97, 98]⟩ ⟨#[98]⟩ _ (by decide) (by decide)).mono ?_
        rintro e w7 ⟨rfl, hb7⟩
        rw [ab_b]
        go_wp2
        go_ret
        have s1 := hb.size
        have s3 := hb3.size
        exact ⟨rfl, (hb.trans (hb3.mono s1)).trans (hb7.mono (by omega))⟩
end Go.Proofs.Ytmphoafjeojodaa

/- FnStill: the walk -/
import Derived.Test.YtmphoafjeojodaaWo
import Derived.Test.YtmphoafjeojodaaWq
namespace Go.Proofs.Ytmphoafjeojodaa
open Go.RowKit

set_option maxRecDepth 100000 in
set_option maxHeartbeats 1600000 in
theorem law_still (a0 : Option Addr) (len0 cap0 : Nat) (z0 : List Int) (n : Int) (w : World) (w0 : IsRow .u8 w a0 len0 cap0 z0) (w2 : (Lit.int .u8 n).wf = true) :
    Calls Try.prog 11 #[.slice a0 len0 cap0, .int .u8 n] w fun e w' => e = .returned (.bool true) ∧ Below w.heap.size w w' := by
  have hn := bounds_u8 w2
  have hn0 := hn.1
  have hn1 := hn.2
  by_cases h : 2147483647 < len0
  · go_enter Try.func11, Try.ntmps11
    go_wp2
    go_ret
    exact ⟨rfl, Below.refl _ _⟩
  · go_enter Try.func11, Try.ntmps11
    go_wp2_with fail
    refine (text_any (words_row w0 (by omega))).mono ?_
    rintro e w3 ⟨s, rfl, hs, hb⟩
    have HS : Hid (Spoken s) := hs
    clear hs
    go_wp2_with fail
    refine (most_any hn0 hn1 _).mono ?_
    rintro e w4 ⟨m, rfl, hm1, hm2, hm3, rfl⟩
    have HM : Hid (m = (n % 20).toNat + 2) := hm3
    clear hm3
    obtain ⟨rs, rfl, hj1, hj2, t, hta, htl, HT⟩ : ∃ rs, s = enc rs ∧ AllA' rs ∧ rs.length ≤ 360 ∧ ∃ t : List Int, AllA' t ∧ t.length ≤ 10000 ∧ Hid (wrapL m rs = t ∧ wrapL m t = t) := by
      obtain ⟨ws, e1, hk, hw⟩ := HS.out
      obtain ⟨q1, q2⟩ := join_alpha ws hw
      exact ⟨joinL ws, e1, q1, by omega, wrapL m (joinL ws), (wrap_all m _ q1).1, by have := (wrap_all m _ q1).2; omega, rfl, wrap_still m hm1 ws (w7_word hw)⟩
    clear HS
    go_wp2_with fail
    refine (wrapped_any (by omega) hj1 (by omega) _).mono ?_
    rintro e w5 ⟨rfl, hb5⟩
    rw [HT.out.1]
    go_wp2_with fail
    refine (most_any hn0 hn1 _).mono ?_
    rintro e w6 ⟨m2, rfl, hm4, hm5, hm6, rfl⟩
    obtain rfl : m = m2 := HM.out.trans hm6.symm
    clear hm6
    go_wp2_with fail
    refine (wrapped_any (by omega) hta htl _).mono ?_
    rintro e w7 ⟨rfl, hb7⟩
    rw [HT.out.2]
    have s1 := hb.size
    have s2 := hb5.size
    have s3 := hb7.size
    go_wp2_with fail
    refine (impl_dist ⟨#[97, 98]⟩ ⟨#[98]⟩ _ (by decide) (by decide)).mono ?_
    rintro e w8 ⟨rfl, hb8⟩
    rw [ab_b]
    go_wp2
    go_ret
    exact ⟨rfl, ((hb.trans (hb5.mono s1)).trans (hb7.mono (by omega))).trans (hb8.mono (by omega))⟩
end Go.Proofs.Ytmphoafjeojodaa

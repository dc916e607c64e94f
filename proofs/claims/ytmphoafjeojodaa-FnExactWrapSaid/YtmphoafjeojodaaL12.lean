/- FnExactWrap: the walk -/
import Derived.Test.YtmphoafjeojodaaWp
import Derived.Test.YtmphoafjeojodaaWq
namespace Go.Proofs.Ytmphoafjeojodaa
open Go.RowKit

set_option maxRecDepth 100000 in
set_option maxHeartbeats 1600000 in
theorem law_wrap (a0 : Option Addr) (len0 cap0 : Nat) (z0 : List Int) (n : Int) (w : World) (w0 : IsRow .u8 w a0 len0 cap0 z0) (w2 : (Lit.int .u8 n).wf = true) :
    Calls Try.prog 12 #[.slice a0 len0 cap0, .int .u8 n] w fun e w' => e = .returned (.bool true) ∧ Below w.heap.size w w' := by
  have hn := bounds_u8 w2
  have hn0 := hn.1
  have hn1 := hn.2
  by_cases h : 2147483647 < len0
  · go_enter Try.func12, Try.ntmps12
    go_wp2
    go_ret
    exact ⟨rfl, Below.refl _ _⟩
  · obtain ⟨ws, hws⟩ : ∃ ws, ws = wordsL z0 len0 40 0 := ⟨_, rfl⟩
    have hww : ∀ w', IsRow .u8 w' a0 len0 cap0 z0 → Calls Try.prog 31 #[.slice a0 len0 cap0] w' (Told9 ws w') := fun w' h' => by rw [hws]; exact words_row9 h' (by omega)
    have HWW : Hid (∀ w', IsRow .u8 w' a0 len0 cap0 z0 → Calls Try.prog 31 #[.slice a0 len0 cap0] w' (Told9 ws w')) := hww
    clear hww hws
    go_enter Try.func12, Try.ntmps12
    go_wp2_with fail
    refine (HWW.out _ w0).mono ?_
    rintro e w3 ⟨v, rfl, hk, hw, hown, hb3⟩
    have HW : Hid (∀ l ∈ ws, W7 l) := hw
    clear hw
    go_wp2_with fail
    refine (most_any hn0 hn1 _).mono ?_
    rintro e w4 ⟨m, rfl, hm1, hm2, hm3, rfl⟩
    clear hm3
    obtain ⟨s, t, hst, c1, c2, c3⟩ : ∃ s t : ByteArray, t.size ≤ 2160 ∧ (∀ W, IsRow .u8 W a0 len0 cap0 z0 → Calls Try.prog 28 #[.slice a0 len0 cap0] W fun e w' => e = .returned (.string s) ∧ Below W.heap.size W w') ∧
        (∀ W, Calls Try.prog 30 #[.string s, .int .i64 m] W fun e w' => e = .returned (.string t) ∧ Below W.heap.size W w') ∧
        (∀ W, W.ownsRow w.heap.size 9 1 v ws.length (strs ws) → Calls Try.prog 32 #[v, .int .i64 m] W fun e w' => e = .returned (.string t) ∧ Below W.heap.size W w') := by
      obtain ⟨q1, q2⟩ := join_alpha ws HW.out
      have q3 := wrap_all m _ q1
      have q4 := (enc_size_le _ q3.1).2
      have q5 := wrap_exact m hm1 ws (w7_word HW.out)
      refine ⟨enc (joinL ws), enc (specL m ws), by rw [← q5]; omega, fun W hW => text_exact (HWW.out _ hW), fun W => ?_, fun W hW => spec_wrap_any hW HW.out hk (by omega)⟩
      rw [← q5]
      exact wrapped_any (by omega) q1 (by omega) W
    have C1 := Lib.hid c1
    have C2 := Lib.hid c2
    have C3 := Lib.hid c3
    clear c1 c2 c3
    have w0' := w0.later hb3
    go_wp2_with fail
    refine (C1.out _ w0').mono ?_
    rintro e w5 ⟨rfl, hb5⟩
    go_wp2_with fail
    refine (C2.out _).mono ?_
    rintro e w6 ⟨rfl, hb6⟩
    have hown2 := own_later (own_later hown hb5) hb6
    go_wp2_with fail
    refine (C3.out _ hown2).mono ?_
    rintro e w7 ⟨rfl, hb7⟩
    go_wp2_with fail
    refine (impl_dist ⟨#[97, 98]⟩ ⟨#[98]⟩ _ (by decide) (by decide)).mono ?_
    rintro e w8 ⟨rfl, hb8⟩
    rw [ab_b]
    go_wp2
    go_ret
    have s3 := hb3.size
    have s5 := hb5.size
    have s6 := hb6.size
    have s7 := hb7.size
    exact ⟨rfl, (((hb3.trans (hb5.mono s3)).trans (hb6.mono (by omega))).trans (hb7.mono (by omega))).trans (hb8.mono (by omega))⟩
end Go.Proofs.Ytmphoafjeojodaa

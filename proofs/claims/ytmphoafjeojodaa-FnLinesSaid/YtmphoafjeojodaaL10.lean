/- FnLines: the walk -/
import Derived.Test.YtmphoafjeojodaaWo
import Derived.Test.YtmphoafjeojodaaWq
namespace Go.Proofs.Ytmphoafjeojodaa
open Go.RowKit

theorem enc_nl : (⟨#[10]⟩ : ByteArray) = enc [10] := by decide
theorem enc_lines (a b : List Int) : enc a ++ ⟨#[10]⟩ ++ enc b = enc (a ++ 10 :: b) := by
  rw [enc_nl, ← enc_append, ← enc_append, List.append_assoc]; rfl
/-- the letters of a text of words -/
theorem Spoken.letters {s : ByteArray} (h : Spoken s) : ∃ rs, s = enc rs ∧ AllA' rs ∧ rs.length ≤ 360 := by
  obtain ⟨ws, e1, hk, hw⟩ := h
  obtain ⟨q1, q2⟩ := join_alpha ws hw
  exact ⟨joinL ws, e1, q1, by omega⟩

/-- what impl.Wrapped tells of a text -/
def Gives (s : ByteArray) (m : Nat) (t : ByteArray) : Prop := ∀ w : World, Calls Try.prog 30 #[.string s, .int .i64 m] w fun e w' => e = .returned (.string t) ∧ Below w.heap.size w w'

set_option maxRecDepth 100000 in
set_option maxHeartbeats 1600000 in
theorem law_lines (a0 : Option Addr) (len0 cap0 : Nat) (z0 : List Int) (a1 : Option Addr) (len1 cap1 : Nat) (z1 : List Int) (n : Int) (w : World) (w0 : IsRow .u8 w a0 len0 cap0 z0) (w1 : IsRow .u8 w a1 len1 cap1 z1) (w2 : (Lit.int .u8 n).wf = true) :
    Calls Try.prog 10 #[.slice a0 len0 cap0, .slice a1 len1 cap1, .int .u8 n] w fun e w' => e = .returned (.bool true) ∧ Below w.heap.size w w' := by
  have hn := bounds_u8 w2
  have hn0 := hn.1
  have hn1 := hn.2
  rcases (show 2147483647 < len0 ∨ (¬ 2147483647 < len0 ∧ 2147483647 < len1) ∨ (¬ 2147483647 < len0 ∧ ¬ 2147483647 < len1) from by omega) with h | ⟨h, h2⟩ | ⟨h, h2⟩
  · go_enter Try.func10, Try.ntmps10
    go_wp2
    go_ret
    exact ⟨rfl, Below.refl _ _⟩
  · go_enter Try.func10, Try.ntmps10
    go_wp2
    go_ret
    exact ⟨rfl, Below.refl _ _⟩
  · go_enter Try.func10, Try.ntmps10
    go_wp2_with fail
    refine (text_any (words_row w0 (by omega))).mono ?_
    rintro e w3 ⟨s, rfl, hs, hb3⟩
    obtain ⟨rs, hrs, ja, jl⟩ := hs.letters
    have HS : Hid (s = enc rs) := hrs
    clear hs hrs
    have w1' := w1.later hb3
    go_wp2_with fail
    refine (text_any (words_row w1' (by omega))).mono ?_
    rintro e w4 ⟨t, rfl, ht, hb4⟩
    obtain ⟨rt, hrt, ka, kl⟩ := ht.letters
    have HT : Hid (t = enc rt) := hrt
    clear ht hrt
    go_wp2_with fail
    refine (most_any hn0 hn1 _).mono ?_
    rintro e w5 ⟨m, rfl, hm1, hm2, hm3, rfl⟩
    clear hm3
    have hss : s.size ≤ 1080 := by rw [HS.out]; have := enc_size_le _ ja; omega
    have hts : t.size ≤ 1080 := by rw [HT.out]; have := enc_size_le _ ka; omega
    obtain ⟨X, Y, hxs, hys, c1, c2, c3⟩ : ∃ X Y : ByteArray, X.size ≤ 2160 ∧ Y.size ≤ 2160 ∧ Gives (s ++ ⟨#[10]⟩ ++ t) m (X ++ ⟨#[10]⟩ ++ Y) ∧ Gives s m X ∧ Gives t m Y := by
      have e1 := wrap_all m rs ja
      have e2 := wrap_all m rt ka
      have q1 := enc_size_le _ e1.1
      have q2 := enc_size_le _ e2.1
      refine ⟨enc (wrapL m rs), enc (wrapL m rt), by omega, by omega, fun W => ?_, fun W => ?_, fun W => ?_⟩
      · rw [HS.out, HT.out, enc_lines, enc_lines, show wrapL m rs ++ 10 :: wrapL m rt = wrapL m rs ++ [10] ++ wrapL m rt from by simp, ← wrap_lines]
        exact wrapped_any (by omega) (alla_app ja (alla_app (alla_one alpha10) ka)) (by simp; omega) W
      · rw [HS.out]; exact wrapped_any (by omega) ja (by omega) W
      · rw [HT.out]; exact wrapped_any (by omega) ka (by omega) W
    have hnl : (⟨#[10]⟩ : ByteArray).size = 1 := rfl
    clear HS HT
    go_wp2_with fail
    refine (c1 _).mono ?_
    rintro e w6 ⟨rfl, hb6⟩
    go_wp2_with fail
    refine (c2 _).mono ?_
    rintro e w7 ⟨rfl, hb7⟩
    go_wp2_with fail
    refine (c3 _).mono ?_
    rintro e w8 ⟨rfl, hb8⟩
    go_wp2_with fail
    refine (impl_dist ⟨#[97, 98]⟩ ⟨#[98]⟩ _ (by decide) (by decide)).mono ?_
    rintro e w9 ⟨rfl, hb9⟩
    rw [ab_b]
    go_wp2
    go_ret
    have s3 := hb3.size
    have s4 := hb4.size
    have s6 := hb6.size
    have s7 := hb7.size
    have s8 := hb8.size
    exact ⟨rfl, ((((hb3.trans (hb4.mono s3)).trans (hb6.mono (by omega))).trans (hb7.mono (by omega))).trans (hb8.mono (by omega))).trans (hb9.mono (by omega))⟩
end Go.Proofs.Ytmphoafjeojodaa

/- impl.Bonus, impl.Likeness; Near at whatever two slices of bytes, its texts of at most 20 letters -/
import Derived.Test.YtmphoafjeojodaaMt
namespace Go.Proofs.Ytmphoafjeojodaa
open Go.RowKit

theorem near_any2 (a0 : Option Addr) (len0 cap0 : Nat) (z0 : List Int) (a1 : Option Addr) (len1 cap1 : Nat) (z1 : List Int) (w : World) (w0 : IsRow .u8 w a0 len0 cap0 z0) (w1 : IsRow .u8 w a1 len1 cap1 z1)
    (h0 : len0 ≤ 2147483647) (h1 : len1 ≤ 2147483647) :
    Calls Try.prog 13 #[.slice a0 len0 cap0, .slice a1 len1 cap1] w fun e w' => ∃ x y : ByteArray, e = .returned (.tuple #[.string x, .string y]) ∧ Text20 x ∧ Text20 y ∧ Below w.heap.size w w' := by
  have key : ∀ (a : Option Addr) (len cap : Nat) (z : List Int), IsRow .u8 w a len cap z → ∃ b off, (0 < len → a = some ⟨b, off, none⟩) ∧ (0 < len → b < w.heap.size) ∧
      (∀ i, i < len → w.cell? ⟨b, off + i, none⟩ = some (.int .u8 (z.getD i 0))) ∧ (∀ i, i < len → 0 ≤ z.getD i 0 ∧ z.getD i 0 ≤ 255) := by
    intro a len cap z h
    rcases h.open with ⟨h, _⟩ | ⟨b, off, h1, h2, _, _, _, h3, h4, h5⟩
    · exact ⟨0, 0, fun g => by omega, fun g => by omega, fun i hi => by omega, fun i hi => by omega⟩
    · exact ⟨b, off, fun _ => h1, fun _ => h3, h4, fun i hi => bounds_u8 (h5 i hi)⟩
  obtain ⟨b0, o0, p1, p2, p3, p4⟩ := key a0 len0 cap0 z0 w0
  obtain ⟨b1, o1, q1, q2, q3, q4⟩ := key a1 len1 cap1 z1 w1
  exact near_core2 a0 b0 o0 len0 cap0 z0 a1 b1 o1 len1 cap1 z1 w p1 p2 h0 p3 p4 q1 q2 h1 q3 q4

theorem ln_le {a b : ByteArray} (ha : Text20 a) (hb : Text20 b) : ln a b ≤ 20 := by
  have := ha.len
  have := hb.len
  unfold ln
  omega
theorem near2_c11 {a b : ByteArray} (ha : Text20 a) (hb : Text20 b) : near2 (likeV (dn a b) (ln a b)) C11 = false := by
  obtain ⟨_, _, h3, h4, _⟩ := like_facts (dn a b) (ln a b) (ln_le ha hb) (dn_le a b)
  unfold near2
  rw [h3, h4]; rfl
theorem matchV_c11 {a b : ByteArray} (ha : Text20 a) (hb : Text20 b) (P : Nat) : matchV C11 (dn a b) (ln a b) P = likeV (dn a b) (ln a b) := by
  unfold matchV
  rw [near2_c11 ha hb]; rfl

theorem run_store_f64 (a : Addr) (x : Nat) (m : Mode) (w : World) : (store a (.float .f64 x) m).run Try.prog w = stored Try.prog w a (.float .f64 x) m := run_store Try.prog w a _ m rfl
theorem c11_ge_0 : (FloatKind.f64.format.order 4607632778762754458 0 == some .gt) = true := by decide +kernel

set_option maxRecDepth 100000 in
theorem ilike_any (a b : ByteArray) (w : World) (ha : Text20 a) (hb : Text20 b) :
    Calls Try.prog 25 #[.string a, .string b] w fun e w' => e = .returned (.float .f64 (likeV (dn a b) (ln a b))) ∧ Below w.heap.size w w' := by
  have hc := c11_ge_0
  have hst := run_store_f64
  go_enter Try.func25, Try.ntmps25
  go_wp2_with (first | (go_at_call 43; go_in) | (go_at_call 48; go_in) | (go_at_call 36; go_in) | (go_at_call 49; go_in))
  refine (match_any a b _ C11 _ ha hb (.inr ⟨w.heap.size, rfl, by simp, by simp, by simp, by simp, by simp, by simp [C01], by simp [C11]⟩) (fun h => by rw [near2_c11 ha hb] at h; cases h)).mono ?_
  rintro e w' ⟨⟨P, _, rfl⟩, hb1⟩
  have hb2 : Below w.heap.size w w' := ((Below.refl _ w).alloc (Nat.le_refl _) _).trans (hb1.mono (by simp))
  clear hb1
  go_wp2
  go_ret
  exact ⟨ret_float (matchV_c11 ha hb P), hb2⟩

set_option maxRecDepth 100000 in
theorem ibonus_any (a b : ByteArray) (w : World) (ha : Text20 a) (hb : Text20 b)
    (HB : (near2 (likeV (dn a b) (ln a b)) C07 && (ford (likeV (dn a b) (ln a b)) ONE == some .lt)) = true → ∀ p, p ≤ 4 → bonusOk (likeV (dn a b) (ln a b)) p = true) :
    Calls Try.prog 24 #[.string a, .string b] w fun e w' => (∃ P, IsPre (rn a) (rn b) (rl a) (rl b) P ∧ e = .returned (.float .f64 (matchV C07 (dn a b) (ln a b) P))) ∧ Below w.heap.size w w' := by
  go_enter Try.func24, Try.ntmps24
  go_wp2_with fail
  refine (match_any a b _ C07 _ ha hb (.inl ⟨rfl, rfl⟩) HB).mono ?_
  rintro e w' ⟨⟨P, HP, rfl⟩, hb1⟩
  go_wp2
  go_ret
  exact ⟨⟨P, HP, rfl⟩, hb1⟩

theorem closeV_ok {a b : Nat} (h : closeV a b = true) : fok .sub a b = true ∧ fok .sub b a = true := by
  unfold closeV at h
  simp only [Bool.and_eq_true] at h
  exact h.1.1
end Go.Proofs.Ytmphoafjeojodaa

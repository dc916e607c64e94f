/- the impl functions, and Near at whatever two slices of bytes -/
import Derived.Test.YtmphoafjeojodaaB
import Derived.Test.YtmphoafjeojodaaD
import Derived.OpenShut
namespace Go.Proofs.Ytmphoafjeojodaa
open Go.RowKit

theorem near_any (a0 : Option Addr) (len0 cap0 : Nat) (z0 : List Int) (a1 : Option Addr) (len1 cap1 : Nat) (z1 : List Int) (w : World) (w0 : IsRow .u8 w a0 len0 cap0 z0) (w1 : IsRow .u8 w a1 len1 cap1 z1)
    (h0 : len0 ≤ 2147483647) (h1 : len1 ≤ 2147483647) :
    Calls Try.prog 13 #[.slice a0 len0 cap0, .slice a1 len1 cap1] w fun e w' => ∃ x y : ByteArray, e = .returned (.tuple #[.string x, .string y]) ∧ x.size ≤ 60 ∧ y.size ≤ 60 ∧ Below w.heap.size w w' := by
  have key : ∀ (a : Option Addr) (len cap : Nat) (z : List Int), IsRow .u8 w a len cap z → ∃ b off, (0 < len → a = some ⟨b, off, none⟩) ∧ (0 < len → b < w.heap.size) ∧
      (∀ i, i < len → w.cell? ⟨b, off + i, none⟩ = some (.int .u8 (z.getD i 0))) ∧ (∀ i, i < len → 0 ≤ z.getD i 0 ∧ z.getD i 0 ≤ 255) := by
    intro a len cap z h
    rcases h.open with ⟨h, _⟩ | ⟨b, off, h1, h2, _, _, _, h3, h4, h5⟩
    · exact ⟨0, 0, fun g => by omega, fun g => by omega, fun i hi => by omega, fun i hi => by omega⟩
    · exact ⟨b, off, fun _ => h1, fun _ => h3, h4, fun i hi => bounds_u8 (h5 i hi)⟩
  obtain ⟨b0, o0, p1, p2, p3, p4⟩ := key a0 len0 cap0 z0 w0
  obtain ⟨b1, o1, q1, q2, q3, q4⟩ := key a1 len1 cap1 z1 w1
  exact near_core a0 b0 o0 len0 cap0 z0 a1 b1 o1 len1 cap1 z1 w p1 p2 h0 p3 p4 q1 q2 h1 q3 q4

theorem impl_dist (a b : ByteArray) (w : World) (ha : a.size ≤ 60) (hb : b.size ≤ 60) :
    Calls Try.prog 14 #[.string a, .string b] w fun e w' => e = .returned (.int .i64 (ed (rn a) (rn b) 1 1 1 (rl a) (rl b))) ∧ Below w.heap.size w w' := by
  go_enter Try.func14, Try.ntmps14
  go_wp2_with (go_at_call 34; refine (dist_any a b _ 1 1 1 0 _ ha hb (.inl ⟨rfl, rfl, rfl, rfl, rfl⟩) (by omega) (by omega) (by omega) (.inl rfl)).mono ?_; rintro e w' ⟨rfl, hb⟩)
  go_ret
  exact ⟨rfl, hb⟩

theorem ab_b : ed (rn ⟨#[97, 98]⟩) (rn ⟨#[98]⟩) 1 1 1 (rl ⟨#[97, 98]⟩) (rl ⟨#[98]⟩) = 1 := by
  have e1 : rl ⟨#[97, 98]⟩ = 2 := by decide +kernel
  have e2 : rl ⟨#[98]⟩ = 1 := by decide +kernel
  have e3 : rn ⟨#[97, 98]⟩ 0 = 97 := by decide +kernel
  have e4 : rn ⟨#[97, 98]⟩ 1 = 98 := by decide +kernel
  have e5 : rn ⟨#[98]⟩ 0 = 98 := by decide +kernel
  rw [e1, e2, ed_ss, ed_ss]
  simp only [ed_r0, ed_0, e3, e4, e5]
  decide
end Go.Proofs.Ytmphoafjeojodaa

/- the impl functions, and Near at whatever two slices of bytes -/
import Derived.Test.YtmphoafjeojodaaDoorD
import Derived.OpenShut
namespace Go.Proofs.YtmphoafjeojodaaDoor
open Go.RowKit

theorem impl_dist (a b : ByteArray) (w : World) (ha : a.size ≤ 60) (hb : b.size ≤ 60) :
    Calls Tryd.prog 8 #[.string a, .string b] w fun e w' => e = .returned (.int .i64 (ed (rn a) (rn b) 1 1 1 (rl a) (rl b))) ∧ Below w.heap.size w w' := by
  go_enter Tryd.func8, Tryd.ntmps8
  go_wp2_with (go_at_call 13; refine (dist_any a b _ 1 1 1 0 _ ha hb (.inl ⟨rfl, rfl, rfl, rfl, rfl⟩) (by omega) (by omega) (by omega) (.inl rfl)).mono ?_; rintro e w' ⟨rfl, hb⟩)
  go_ret
  exact ⟨rfl, hb⟩

theorem ab_b : ed (rn ⟨#[97, 98]⟩) (rn ⟨#[98]⟩) 1 1 1 (rl ⟨#[97, 98]⟩) (rl ⟨#[98]⟩) = 1 := by
  have e1 : rl ⟨#[97, 98]⟩ = 2 := by decide +kernel
  have e2 : rl ⟨#[98]⟩ = 1 := by decide +kernel
  have e3 : rn ⟨#[97, 98]⟩ 0 = 97 := by decide +kernel
  have e4 : rn ⟨#[97, 98]⟩ 1 = 98 := by decide +kernel
  have e5 : rn ⟨#[98]⟩ 0 = 98 := by decide +kernel
  rw [e1, e2, ed_ss, ed_ss]
  simp only [ed_r0, ed_0, e3, e4, e5]
  decide
end Go.Proofs.YtmphoafjeojodaaDoor

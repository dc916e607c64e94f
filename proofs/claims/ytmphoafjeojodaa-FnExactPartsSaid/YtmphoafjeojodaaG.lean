/- impl.Parts, impl.Capped, impl.Costs, spec.Rest, spec.Longer, spec.Cost -/
import Derived.Test.YtmphoafjeojodaaE
import Derived.Test.YtmphoafjeojodaaF
namespace Go.Proofs.Ytmphoafjeojodaa
open Go.RowKit

set_option maxRecDepth 100000 in
theorem parts_any (a b : ByteArray) (w : World) (ha : a.size ≤ 60) (hb : b.size ≤ 60) :
    Calls Try.prog 16 #[.string a, .string b] w fun e w' => Told (rn a) (rn b) 1 1 1 (rl a) (rl b) e ∧ Below w.heap.size w w' := by
  have hca := fun wx => conv_runes a (by omega) wx
  have hcb := fun wx => conv_runes b (by omega) wx
  have la := rl_le a
  have lb := rl_le b
  go_enter Try.func16, Try.ntmps16
  go_wp2_with fail
  refine (calc_any _ _ _ _ (rn a) _ _ _ _ (rn b) 0 1 1 1 _ (by omega) (by omega) (rl_cap _ _) (rl_cap _ _) (by exact (two_conv w _ _ a b).1) (by exact (two_conv w _ _ a b).2) (.inl rfl) (by omega) (by omega) (by omega)).mono ?_
  rintro e w' ⟨⟨P, Q, rfl, HP, HQ⟩, hb⟩
  have hb1 : Below w.heap.size w w' := (((Below.refl _ w).alloc (Nat.le_refl _) _).alloc (by simp) _).drew.drew.trans (hb.mono (by simp; omega))
  go_wp2
  go_ret3
  exact ⟨⟨P, Q, rfl, HP, HQ⟩, hb1⟩
end Go.Proofs.Ytmphoafjeojodaa

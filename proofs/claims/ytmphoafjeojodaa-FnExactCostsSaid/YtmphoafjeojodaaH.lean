/- impl.Capped, impl.Costs, spec.Cost, spec.Longer, spec.Rest -/
import Derived.Test.YtmphoafjeojodaaE
import Derived.Test.YtmphoafjeojodaaF
namespace Go.Proofs.Ytmphoafjeojodaa
open Go.RowKit

set_option maxRecDepth 100000 in
theorem capped_any (a b : ByteArray) (m : Int) (w : World) (ha : a.size ≤ 60) (hb : b.size ≤ 60) (hm0 : 0 < m) (hm : Roomy (rn a) (rn b) (rl a) (rl b) m 1 1 1) :
    Calls Try.prog 19 #[.string a, .string b, .int .i64 m] w fun e w' => e = .returned (.int .i64 (ed (rn a) (rn b) 1 1 1 (rl a) (rl b))) ∧ Below w.heap.size w w' := by
  have hm1 : 0 ≤ m := by omega
  go_enter Try.func19, Try.ntmps19
  go_wp2_with (first | (go_at_call 36; go_in) | (go_at_call 37; go_in))
  refine (dist_any a b _ 1 1 1 m _ ha hb (.inr ⟨w.heap.size, rfl, by simp, by simp, by simp, by simp⟩) (by omega) (by omega) (by omega) hm).mono ?_
  rintro e w' ⟨rfl, hb⟩
  go_wp2
  go_ret
  refine ⟨rfl, ?_⟩
  exact ((Below.refl _ w).alloc (Nat.le_refl _) _).trans (hb.mono (by simp))

set_option maxRecDepth 100000 in
theorem icosts_any (a b : ByteArray) (i s d : Int) (w : World) (ha : a.size ≤ 60) (hb : b.size ≤ 60) (hi : 0 ≤ i ∧ i ≤ 5) (hs : 0 ≤ s ∧ s ≤ 5) (hd : 0 ≤ d ∧ d ≤ 5) :
    Calls Try.prog 21 #[.string a, .string b, .int .i64 i, .int .i64 s, .int .i64 d] w fun e w' => e = .returned (.int .i64 (ed (rn a) (rn b) i s d (rl a) (rl b))) ∧ Below w.heap.size w w' := by
  have i0 := hi.1
  have s0 := hs.1
  have d0 := hd.1
  go_enter Try.func21, Try.ntmps21
  go_wp2_with (first | (go_at_call 36; go_in) | (go_at_call 38; go_in) | (go_at_call 39; go_in) | (go_at_call 40; go_in))
  refine (dist_any a b _ i s d 0 _ ha hb (.inr ⟨w.heap.size, rfl, by simp, by simp, by simp, by simp⟩) hi hs hd (.inl rfl)).mono ?_
  rintro e w' ⟨rfl, hb⟩
  go_wp2
  go_ret
  refine ⟨rfl, ?_⟩
  exact ((Below.refl _ w).alloc (Nat.le_refl _) _).trans (hb.mono (by simp))
end Go.Proofs.Ytmphoafjeojodaa

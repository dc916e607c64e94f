/- impl.AtLeast -/
import Derived.Test.YtmphoafjeojodaaMs
import Derived.Test.YtmphoafjeojodaaCl
namespace Go.Proofs.Ytmphoafjeojodaa
open Go.RowKit

theorem par_new (W : World) (ms bt : Nat) : Par8 (W.alloc (.cells #[.int .i64 1, .int .i64 1, .int .i64 1, .int .i64 0, .float .f64 ms, .int .i64 4, .float .f64 C01, .float .f64 bt] 61)).drew W.heap.size ms bt :=
  ⟨by simp, by simp, by simp, by simp, by simp, by simp, by simp⟩

set_option maxRecDepth 100000 in
set_option maxHeartbeats 1600000 in
theorem ileast_any (a b : ByteArray) (t : Nat) (w : World) (ha : Text20 a) (hb : Text20 b) (ht : t ≤ 10)
    (hbd : Bound (rn a) (rn b) (rl a) (rl b) (mx t (ln a b))) (hdx : mx t (ln a b) = 0 ∨ dn a b ≤ mx t (ln a b)) :
    Calls Try.prog 27 #[.string a, .string b, .int .i64 t] w fun e w' => e = .returned (.float .f64 (leastV t (dn a b) (ln a b))) ∧ Below w.heap.size w w' := by
  obtain ⟨ft1, _, _, _, _, ft6, ft7⟩ := tenth_facts t ht
  have r1 := run_fop ft1 36
  obtain ⟨tv, htv⟩ : ∃ tv, tv = tenthV t := ⟨_, rfl⟩
  have htv2 : tv = fop .quo (fl t) TEN := htv
  rw [← htv2] at r1
  rw [← htv] at ft6 ft7
  unfold fl TEN at r1
  unfold ford at ft6 ft7
  obtain ⟨c0, hc0⟩ : ∃ c0, (FloatKind.f64.format.order tv 0 == some .gt) = c0 := ⟨_, rfl⟩
  obtain ⟨c1, hc1⟩ : ∃ c1, (FloatKind.f64.format.order tv 0 == some .eq) = c1 := ⟨_, rfl⟩
  rw [hc0] at ft6
  rw [hc1] at ft7
  have hcc : (c0 || c1) = true := by
    rw [ft6, ft7]
    by_cases h : t = 0
    · subst h; rfl
    · simp [h]
  have HTV := Lib.hid htv
  have HBD := Lib.hid hbd
  have HDX := Lib.hid hdx
  clear htv htv2 hbd hdx ft1 ft6 ft7
  have hc := c11_ge_0
  have hst := run_store_f64
  cases c0 <;> cases c1 <;> simp at hcc
  all_goals
    clear hcc
    go_enter Try.func27, Try.ntmps27
    go_wp2_with (first | (go_at_call 36; go_in) | (go_at_call 44; go_in) | (go_at_call 43; go_in))
    refine (clone_any w.heap.size tv C07 _ ⟨⟨by simp, by simp, by simp, by simp, by simp, by simp [C01], by simp [C07]⟩, by simp⟩).mono ?_
    rintro e w' ⟨rfl, rfl⟩
    unfold parBlock
    go_wp2_with (first | (go_at_call 49; go_in))
    refine (match_least a b _ t _ ha hb ht (by have := par_new (w.alloc (.cells #[.int .i64 1, .int .i64 1, .int .i64 1, .int .i64 0, .float .f64 tv, .int .i64 4, .float .f64 4591870180066957722, .float .f64 4604480259023595110] 61)) tv C11; rw [World.size_alloc] at this; rw [← HTV.out]; exact this) HBD.out HDX.out).mono ?_
    rintro e w' ⟨rfl, hb1⟩
    have hb2 : Below w.heap.size w w' := (((Below.refl _ w).alloc (Nat.le_refl _) _).alloc (by simp) _).drew.trans (hb1.mono (by show _ ≤ (World.alloc _ _).heap.size; simp; omega))
    clear hb1
    go_wp2
    go_ret
    exact ⟨rfl, hb2⟩
end Go.Proofs.Ytmphoafjeojodaa

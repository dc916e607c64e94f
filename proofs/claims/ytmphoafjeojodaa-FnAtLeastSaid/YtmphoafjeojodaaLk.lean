/- spec.Close, spec.Likeness -/
import Derived.Test.YtmphoafjeojodaaB2
import Derived.Test.YtmphoafjeojodaaF
import Derived.Test.YtmphoafjeojodaaFl
namespace Go.Proofs.Ytmphoafjeojodaa
open Go.RowKit

theorem run_fop {o : BinOp} {x y : Nat} (h : fok o x y = true) (t : TypeId) (w : World) : (binOp o t (.float .f64 x) (.float .f64 y)).run Try.prog w = .ok (.float .f64 (fop o x y)) w :=
  run_float_arith (P := Try.prog) w o t .f64 x y _ (fop_of h)

set_option maxRecDepth 100000 in
theorem close_any (a b : Nat) (w : World) (h1 : fok .sub a b = true) (h2 : fok .sub b a = true) :
    Calls Try.prog 23 #[.float .f64 a, .float .f64 b] w fun e w' => e = .returned (.bool (closeV a b)) ∧ w = w' := by
  have r1 := run_fop h1 36
  have r2 := run_fop h2 36
  have hc : closeV a b = ((ford (fop .sub a b) EPS == some .lt) && (ford (fop .sub b a) EPS == some .lt)) := by unfold closeV; rw [h1, h2]; rfl
  rw [hc]
  clear hc h1 h2
  obtain ⟨p, hp⟩ : ∃ p, (ford (fop .sub a b) EPS == some .lt) = p := ⟨_, rfl⟩
  obtain ⟨q, hq⟩ : ∃ q, (ford (fop .sub b a) EPS == some .lt) = q := ⟨_, rfl⟩
  rw [hp, hq]
  unfold ford EPS at hp hq
  cases p <;> cases q
  all_goals
    go_enter Try.func23, Try.ntmps23
    go_wp2
    go_ret
    exact ⟨rfl, rfl⟩
/-- the distance as a count -/
def dn (a b : ByteArray) : Nat := (ed (rn a) (rn b) 1 1 1 (rl a) (rl b)).toNat
/-- the longer text's letters -/
def ln (a b : ByteArray) : Nat := max (rl a) (rl b)
theorem dn_eq (a b : ByteArray) : ed (rn a) (rn b) 1 1 1 (rl a) (rl b) = (dn a b : Int) := by
  have := ed_nonneg (rn a) (rn b) 1 1 1 (by omega) (by omega) (by omega) (rl a) (rl b)
  unfold dn
  omega
theorem dn_le (a b : ByteArray) : dn a b ≤ ln a b := by
  have h1 := ed_le_max (rn a) (rn b) (rl a) (rl b)
  have h2 := dn_eq a b
  unfold ln
  omega

set_option maxRecDepth 100000 in
theorem slike_any (a b : ByteArray) (w : World) (ha : Text20 a) (hb : Text20 b) :
    Calls Try.prog 22 #[.string a, .string b] w fun e w' => e = .returned (.float .f64 (likeV (dn a b) (ln a b))) ∧ Below w.heap.size w w' := by
  have sa := ha.size
  have sb := hb.size
  have la := ha.len
  have lb := hb.len
  have hdn := dn_le a b
  have hed := dn_eq a b
  obtain ⟨m, hm, hmm⟩ : ∃ m : Nat, m = ln a b ∧ max (rl a : Int) (rl b : Int) = (m : Int) := ⟨_, rfl, by unfold ln; omega⟩
  have hm20 : m ≤ 20 := by unfold ln at hm; omega
  rw [← hm] at hdn ⊢
  clear hm
  obtain ⟨d, hd⟩ : ∃ d, d = dn a b := ⟨_, rfl⟩
  rw [← hd] at hdn hed ⊢
  clear hd
  have HED : Hid (ed (rn a) (rn b) 1 1 1 (rl a) (rl b) = (d : Int)) := hed
  clear hed
  obtain ⟨f1, _⟩ := like_facts d m hm20 hdn
  by_cases h0 : m = 0
  · subst h0
    go_enter Try.func22, Try.ntmps22
    go_wp2_with fail
    refine (count_any a _ (by omega)).mono ?_
    rintro e w1 ⟨rfl, hb1⟩
    go_wp2_with fail
    refine (count_any b _ (by omega)).mono ?_
    rintro e w2 ⟨rfl, hb2⟩
    go_wp2
    go_ret
    exact ⟨rfl, hb1.trans (hb2.mono hb1.size)⟩
  · obtain ⟨f2, f3⟩ := f1 h0
    have r1 := run_fop f2 36
    have r2 := run_fop f3 36
    unfold fl at r1
    unfold ONE fl at r2
    have hv : likeV d m = fop .sub ONE (fop .quo (fl d) (fl m)) := by unfold likeV; rw [if_neg h0]
    rw [hv]
    unfold ONE fl
    have hmi : ¬ ((m : Int) == 0) = true := by simp; omega
    clear f1 f2 f3 hv
    go_enter Try.func22, Try.ntmps22
    go_wp2_with fail
    refine (count_any a _ (by omega)).mono ?_
    rintro e w1 ⟨rfl, hb1⟩
    go_wp2_with fail
    refine (count_any b _ (by omega)).mono ?_
    rintro e w2 ⟨rfl, hb2⟩
    go_wp2_with fail
    refine (costs_any a b 1 1 1 _ sa sb (by omega) (by omega) (by omega)).mono ?_
    rintro e w3 ⟨rfl, hb3⟩
    rw [HED.out]
    go_wp2
    go_ret
    exact ⟨rfl, (hb1.trans (hb2.mono hb1.size)).trans (hb3.mono (Nat.le_trans hb1.size hb2.size))⟩
end Go.Proofs.Ytmphoafjeojodaa

/- the floats of a least likeness; all facts by reckoning -/
import Derived.Test.YtmphoafjeojodaaMt
namespace Go.Proofs.Ytmphoafjeojodaa

def TEN : Nat := 4621819117588971520
/-- t tenths -/
def tenthV (t : Nat) : Nat := fop .quo (fl t) TEN
/-- what the distance may be at most, as a float and as a count -/
def roomV (t m : Nat) : Nat := fop .mul (fop .sub ONE (tenthV t)) (fl m)
def mx (t m : Nat) : Nat := if t = 0 then 0 else ((floatToIntVal .f64 (roomV t m) .i64).getD 0).toNat
/-- a likeness below so many tenths is told as 0 -/
def leastV (t d m : Nat) : Nat := if (ford (likeV d m) (tenthV t) == some .lt) = true then 0 else likeV d m

def tenthRow (t : Nat) : Bool := fok .quo (fl t) TEN && fok .sub ONE (tenthV t) && !(ford (tenthV t) ONE == some .gt) && (ford (tenthV t) C11 == some .lt) && !(ford ONE (tenthV t) == some .lt) &&
  ((ford (tenthV t) 0 == some .gt) == (t != 0)) && ((ford (tenthV t) 0 == some .eq) == (t == 0))
def roomRow (t m : Nat) : Bool := fok .mul (fop .sub ONE (tenthV t)) (fl m) && (t == 0 || (floatToIntVal .f64 (roomV t m) .i64 == some ((mx t m : Nat) : Int))) && decide (mx t m ≤ 20) &&
  (mx t m == 0 || decide ((10 - t) * m / 10 ≤ mx t m) || ((10 - t) * m / 10 == mx t m + 1 && closeV (likeV ((10 - t) * m / 10) m) (tenthV t)))
def nearRow (t m d : Nat) : Bool := fok .sub (likeV d m) (tenthV t) && fok .sub (tenthV t) (likeV d m)
def leastT : Bool := (List.range 11).all fun t => tenthRow t && (List.range 21).all fun m => roomRow t m && (List.range (m + 1)).all fun d => nearRow t m d
theorem leastT_true : leastT = true := by decide +kernel

theorem least_at (t m d : Nat) (ht : t ≤ 10) (hm : m ≤ 20) (hd : d ≤ m) : tenthRow t = true ∧ roomRow t m = true ∧ nearRow t m d = true := by
  have h := leastT_true
  unfold leastT at h
  rw [List.all_eq_true] at h
  have h1 := h t (by simp; omega)
  rw [Bool.and_eq_true, List.all_eq_true] at h1
  have h2 := h1.2 m (by simp; omega)
  rw [Bool.and_eq_true, List.all_eq_true] at h2
  exact ⟨h1.1, h2.1, h2.2 d (by simp; omega)⟩
theorem tenth_facts (t : Nat) (ht : t ≤ 10) : fok .quo (fl t) TEN = true ∧ fok .sub ONE (tenthV t) = true ∧ (ford (tenthV t) ONE == some .gt) = false ∧ (ford (tenthV t) C11 == some .lt) = true ∧ (ford ONE (tenthV t) == some .lt) = false ∧
    (ford (tenthV t) 0 == some .gt) = (t != 0) ∧ (ford (tenthV t) 0 == some .eq) = (t == 0) := by
  have := (least_at t 0 0 ht (by omega) (by omega)).1
  unfold tenthRow at this
  simp only [Bool.and_eq_true, Bool.not_eq_true', beq_iff_eq (α := Bool)] at this
  obtain ⟨⟨⟨⟨⟨⟨h1, h2⟩, h3⟩, h4⟩, h5⟩, h6⟩, h7⟩ := this
  exact ⟨h1, h2, h3, h4, h5, h6, h7⟩
theorem room_facts (t m : Nat) (ht : t ≤ 10) (hm : m ≤ 20) : fok .mul (fop .sub ONE (tenthV t)) (fl m) = true ∧ (t ≠ 0 → floatToIntVal .f64 (roomV t m) .i64 = some ((mx t m : Nat) : Int)) ∧ mx t m ≤ 20 ∧
    (mx t m = 0 ∨ (10 - t) * m / 10 ≤ mx t m ∨ ((10 - t) * m / 10 = mx t m + 1 ∧ closeV (likeV ((10 - t) * m / 10) m) (tenthV t) = true)) := by
  have := (least_at t m 0 ht hm (by omega)).2.1
  unfold roomRow at this
  simp only [Bool.and_eq_true, Bool.or_eq_true, beq_iff_eq, decide_eq_true_eq] at this
  obtain ⟨⟨⟨h1, h2⟩, h3⟩, h4⟩ := this
  refine ⟨h1, fun h => h2.resolve_left h, h3, ?_⟩
  rcases h4 with (h4 | h4) | h4
  · exact .inl h4
  · exact .inr (.inl h4)
  · exact .inr (.inr h4)
theorem near_facts (t m d : Nat) (ht : t ≤ 10) (hm : m ≤ 20) (hd : d ≤ m) : fok .sub (likeV d m) (tenthV t) = true ∧ fok .sub (tenthV t) (likeV d m) = true := by
  have := (least_at t m d ht hm hd).2.2
  unfold nearRow at this
  simpa only [Bool.and_eq_true] using this
theorem mx_zero (m : Nat) : mx 0 m = 0 := by unfold mx; rw [if_pos rfl]
/-- how the most goes with what lies between the common beginning and end -/
theorem mx_room (t m d R : Nat) (ht : t ≤ 10) (hm : m ≤ 20) (hd : d ≤ R) (hR : 10 * R ≤ (10 - t) * m) (hc : closeV (likeV d m) (tenthV t) = false) : mx t m = 0 ∨ R ≤ mx t m ∨ (R = mx t m + 1 ∧ d ≤ mx t m) := by
  obtain ⟨_, _, _, h4⟩ := room_facts t m ht hm
  have h5 : R ≤ (10 - t) * m / 10 := by
    rw [Nat.le_div_iff_mul_le (by omega)]; omega
  rcases h4 with h4 | h4 | ⟨h4, h6⟩
  · exact .inl h4
  · exact .inr (.inl (Nat.le_trans h5 h4))
  · by_cases e : R ≤ mx t m
    · exact .inr (.inl e)
    · refine .inr (.inr ⟨by omega, ?_⟩)
      have e2 : R = (10 - t) * m / 10 := by omega
      have e3 : d ≠ R := fun e3 => by rw [e3, e2, h6] at hc; cases hc
      omega
theorem close_zero : closeV 0 0 = true := by decide +kernel
theorem leastV_close (t d m : Nat) (hm : m ≤ 20) (hd : d ≤ m) : closeV (leastV t d m) (leastV t d m) = true := by
  unfold leastV
  split
  · exact close_zero
  · exact (like_facts d m hm hd).2.1
end Go.Proofs.Ytmphoafjeojodaa

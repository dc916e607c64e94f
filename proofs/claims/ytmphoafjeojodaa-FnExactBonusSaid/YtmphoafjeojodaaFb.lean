/- the floats of the bonus; all facts by reckoning -/
import Derived.Test.YtmphoafjeojodaaMt
namespace Go.Proofs.Ytmphoafjeojodaa

def bonusRow (v p : Nat) : Bool :=
  fok .sub v C07 && fok .sub C07 v && (!(near2 v C07 && (ford v ONE == some .lt)) || bonusOk v p) &&
  (!(ford v C07 == some .gt) || bonusOk v p && closeV (if (ford v ONE == some .lt) = true then bonusV v p else v) (bonusV v p)) &&
  (!(!(ford v C07 == some .gt) && (ford v C07 == some .eq)) || closeV v C07)
def bonusT : Bool := (List.range 21).all fun n => (List.range (n + 1)).all fun d => (List.range 5).all fun p => bonusRow (likeV d n) p
theorem bonusT_true : bonusT = true := by decide +kernel

theorem bonus_facts (d n p : Nat) (hn : n ≤ 20) (hd : d ≤ n) (hp : p ≤ 4) : bonusRow (likeV d n) p = true := by
  have h := bonusT_true
  unfold bonusT at h
  rw [List.all_eq_true] at h
  have h1 := h n (by simp; omega)
  rw [List.all_eq_true] at h1
  have h2 := h1 d (by simp; omega)
  rw [List.all_eq_true] at h2
  exact h2 p (by simp; omega)

theorem bonus_ok (d n p : Nat) (hn : n ≤ 20) (hd : d ≤ n) (hp : p ≤ 4) (h : (near2 (likeV d n) C07 && (ford (likeV d n) ONE == some .lt)) = true) : bonusOk (likeV d n) p = true := by
  have := bonus_facts d n p hn hd hp
  unfold bonusRow at this
  rw [h] at this
  simp only [Bool.and_eq_true, Bool.or_eq_true, Bool.not_true] at this
  obtain ⟨⟨⟨_, h1⟩, _⟩, _⟩ := this
  rcases h1 with h1 | h1
  · cases h1
  · exact h1
theorem bonus_sub (d n : Nat) (hn : n ≤ 20) (hd : d ≤ n) : fok .sub (likeV d n) C07 = true ∧ fok .sub C07 (likeV d n) = true := by
  have := bonus_facts d n 0 hn hd (by omega)
  unfold bonusRow at this
  simp only [Bool.and_eq_true] at this
  exact this.1.1.1
/-- above 0.7 -/
theorem bonus_gt (d n P : Nat) (hn : n ≤ 20) (hd : d ≤ n) (h : (ford (likeV d n) C07 == some .gt) = true) :
    bonusOk (likeV d n) (min P 4) = true ∧ closeV (matchV C07 d n P) (bonusV (likeV d n) (min P 4)) = true := by
  have := bonus_facts d n (min P 4) hn hd (by omega)
  unfold bonusRow at this
  rw [h] at this
  simp only [Bool.and_eq_true, Bool.or_eq_true, Bool.not_true] at this
  obtain ⟨⟨_, h1⟩, _⟩ := this
  rcases h1 with h1 | ⟨h1, h2⟩
  · cases h1
  · refine ⟨h1, ?_⟩
    unfold matchV near2
    rw [h, Bool.true_or, Bool.true_and]
    exact h2
/-- not above 0.7 -/
theorem bonus_le (d n P : Nat) (hn : n ≤ 20) (hd : d ≤ n) (h : (ford (likeV d n) C07 == some .gt) = false) (hc : closeV (likeV d n) C07 = false) :
    closeV (matchV C07 d n P) (likeV d n) = true := by
  have := bonus_facts d n (min P 4) hn hd (by omega)
  unfold bonusRow at this
  rw [h, hc] at this
  simp only [Bool.and_eq_true, Bool.or_eq_true, Bool.not_false, Bool.true_and, Bool.not_eq_true'] at this
  obtain ⟨_, h1⟩ := this
  rcases h1 with h1 | h1
  · unfold matchV near2
    rw [h, h1, Bool.false_or, Bool.false_and]
    exact (like_facts d n hn hd).2.1
  · cases h1
end Go.Proofs.Ytmphoafjeojodaa

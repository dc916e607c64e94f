/- the floats that occur, as numbers of 64 bits; all facts on them by reckoning -/
import Derived.Laws.FloatArith
import Derived.Test.YtmphoafjeojodaaEd
namespace Go.Proofs.Ytmphoafjeojodaa

def ONE : Nat := 4607182418800017408
def C07 : Nat := 4604480259023595110
def C01 : Nat := 4591870180066957722
def C11 : Nat := 4607632778762754458
def EPS : Nat := 4472406533629990549
/-- a whole number as a float -/
def fl (n : Nat) : Nat := floatOfInt .f64 (n : Int)
def fop (o : BinOp) (x y : Nat) : Nat := (floatBits o .f64 x y).getD 0
/-- the operation is a valid one -/
def fok (o : BinOp) (x y : Nat) : Bool := (floatBits o .f64 x y).isSome
def ford (x y : Nat) : Option Ordering := FloatKind.f64.format.order x y
theorem fop_of {o : BinOp} {x y : Nat} (h : fok o x y = true) : floatBits o .f64 x y = some (fop o x y) := by
  unfold fok at h
  unfold fop
  obtain ⟨r, hr⟩ := Option.isSome_iff_exists.1 h
  rw [hr]; rfl

/-- 1 less d n-ths -/
def likeV (d n : Nat) : Nat := if n = 0 then ONE else fop .sub ONE (fop .quo (fl d) (fl n))
/-- nearly the same -/
def closeV (a b : Nat) : Bool := fok .sub a b && fok .sub b a && (ford (fop .sub a b) EPS == some .lt) && (ford (fop .sub b a) EPS == some .lt)

def likeT : Bool := (List.range 21).all fun n => (List.range (n + 1)).all fun d =>
  (n == 0 || fok .quo (fl d) (fl n) && fok .sub ONE (fop .quo (fl d) (fl n))) && closeV (likeV d n) (likeV d n) && !(ford (likeV d n) C11 == some .gt) && !(ford (likeV d n) C11 == some .eq) && !(ford (likeV d n) 0 == some .lt)
theorem likeT_true : likeT = true := by decide +kernel

theorem like_facts (d n : Nat) (hn : n ≤ 20) (hd : d ≤ n) : (n ≠ 0 → fok .quo (fl d) (fl n) = true ∧ fok .sub ONE (fop .quo (fl d) (fl n)) = true) ∧ closeV (likeV d n) (likeV d n) = true ∧
    (ford (likeV d n) C11 == some .gt) = false ∧ (ford (likeV d n) C11 == some .eq) = false ∧ (ford (likeV d n) 0 == some .lt) = false := by
  have h := likeT_true
  unfold likeT at h
  rw [List.all_eq_true] at h
  have h1 := h n (by simp; omega)
  rw [List.all_eq_true] at h1
  have h2 := h1 d (by simp; omega)
  simp only [Bool.and_eq_true, Bool.or_eq_true, beq_iff_eq, Bool.not_eq_true'] at h2
  obtain ⟨⟨⟨⟨h3, h4⟩, h5⟩, h6⟩, h7⟩ := h2
  exact ⟨fun hne => by rcases h3 with h3 | h3; exact absurd h3 hne; exact h3, h4, h5, h6, h7⟩

theorem ed_le_max (x y : Nat → Int) : ∀ i j : Nat, ed x y 1 1 1 i j ≤ (max i j : Nat) := by
  intro i
  induction i with
  | zero => intro j; rw [ed_0]; simp
  | succ i ih =>
    intro j
    cases j with
    | zero => rw [ed_r0]; simp
    | succ j =>
      rw [ed_ss]
      have := ih j
      have h2 : (if x i = y j then (0 : Int) else 1) ≤ 1 := by split <;> omega
      omega
end Go.Proofs.Ytmphoafjeojodaa

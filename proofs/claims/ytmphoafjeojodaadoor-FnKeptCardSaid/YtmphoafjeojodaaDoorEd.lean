/- the least cost of turning one row of letters into another, in plain numbers -/
namespace Go.Proofs.YtmphoafjeojodaaDoor

/-- The least cost of turning the first i of x into the first j of y. -/
def ed (x y : Nat → Int) (a t o : Int) : Nat → Nat → Int
  | 0, j => j * a
  | i + 1, 0 => (i + 1 : Nat) * o
  | i + 1, j + 1 => min (min (ed x y a t o i (j + 1) + o) (ed x y a t o (i + 1) j + a)) (ed x y a t o i j + if x i = y j then 0 else t)
termination_by i j => i + j

theorem ed_0 (x y : Nat → Int) (a t o : Int) (j : Nat) : ed x y a t o 0 j = j * a := by rw [ed]
theorem ed_r0 (x y : Nat → Int) (a t o : Int) (i : Nat) : ed x y a t o i 0 = i * o := by
  cases i with
  | zero => rw [ed]; simp
  | succ i => rw [ed]
theorem ed_ss (x y : Nat → Int) (a t o : Int) (i j : Nat) : ed x y a t o (i + 1) (j + 1) =
    min (min (ed x y a t o i (j + 1) + o) (ed x y a t o (i + 1) j + a)) (ed x y a t o i j + if x i = y j then 0 else t) := by rw [ed]

theorem ed_swap (x y : Nat → Int) (a t o : Int) : ∀ i j, ed x y a t o i j = ed y x o t a j i := by
  intro i
  induction i with
  | zero => intro j; rw [ed_0, ed_r0]
  | succ i ih =>
    intro j
    induction j with
    | zero => rw [ed_r0, ed_0]
    | succ j jh =>
      rw [ed_ss, ed_ss, ih (j + 1), jh, ih j]
      have e : (if x i = y j then (0 : Int) else t) = if y j = x i then 0 else t := by
        by_cases h : x i = y j
        · rw [if_pos h, if_pos h.symm]
        · rw [if_neg h, if_neg (fun g => h g.symm)]
      rw [e]; omega

theorem ed_up (x y : Nat → Int) (a t o : Int) (i j : Nat) : ed x y a t o (i + 1) j ≤ ed x y a t o i j + o := by
  cases j with
  | zero => rw [ed_r0, ed_r0]; have : ((i + 1 : Nat) : Int) * o = i * o + o := by rw [Int.natCast_add, Int.add_mul]; simp
            omega
  | succ j => rw [ed_ss]; omega
theorem ed_right (x y : Nat → Int) (a t o : Int) (i j : Nat) : ed x y a t o i (j + 1) ≤ ed x y a t o i j + a := by
  rw [ed_swap, ed_swap x y a t o i j]; exact ed_up _ _ _ _ _ _ _

theorem ed_left (x y : Nat → Int) (a t o : Int) (ha : 0 ≤ a) (ht : 0 ≤ t) (ho : 0 ≤ o) (i j : Nat) :
    ed x y a t o i j ≤ ed x y a t o i (j + 1) + o := by
  induction i with
  | zero =>
    rw [ed_0, ed_0]
    have : ((j + 1 : Nat) : Int) * a = j * a + a := by rw [Int.natCast_add, Int.add_mul]; simp
    omega
  | succ i ih =>
    have h1 := ed_up x y a t o i j
    rw [ed_ss]
    have : (0 : Int) ≤ if x i = y j then 0 else t := by split <;> omega
    omega
theorem ed_down (x y : Nat → Int) (a t o : Int) (ha : 0 ≤ a) (ht : 0 ≤ t) (ho : 0 ≤ o) (i j : Nat) :
    ed x y a t o i j ≤ ed x y a t o (i + 1) j + a := by
  rw [ed_swap, ed_swap x y a t o (i + 1) j]; exact ed_left _ _ _ _ _ ho ht ha _ _

/-- a common end costs nothing. -/
theorem ed_suf (x y : Nat → Int) (a t o : Int) (ha : 0 ≤ a) (ht : 0 ≤ t) (ho : 0 ≤ o) (i j : Nat) (h : x i = y j) :
    ed x y a t o (i + 1) (j + 1) = ed x y a t o i j := by
  have h1 := ed_left x y a t o ha ht ho i j
  have h2 := ed_down x y a t o ha ht ho i j
  rw [ed_ss, if_pos h]; omega

/-- a common beginning costs nothing. -/
theorem ed_pre (x y : Nat → Int) (a t o : Int) (ha : 0 ≤ a) (ht : 0 ≤ t) (ho : 0 ≤ o) (h : x 0 = y 0) : ∀ i j,
    ed x y a t o (i + 1) (j + 1) = ed (fun n => x (n + 1)) (fun n => y (n + 1)) a t o i j := by
  intro i
  induction i with
  | zero =>
    intro j
    induction j with
    | zero => rw [ed_ss, if_pos h, ed_0, ed_r0, ed_0, ed_0]; simp; omega
    | succ j jh =>
      rw [ed_ss, jh, ed_0, ed_0, ed_0, ed_0]
      have e1 : ((j + 1 : Nat) : Int) * a = j * a + a := by rw [Int.natCast_add, Int.add_mul]; simp
      have e2 : ((j + 1 + 1 : Nat) : Int) * a = j * a + a + a := by rw [Int.natCast_add, Int.add_mul, e1]; simp
      have : (0 : Int) ≤ if x 0 = y (j + 1) then 0 else t := by split <;> omega
      omega
  | succ i ih =>
    intro j
    induction j with
    | zero =>
      rw [ed_ss, ih 0, ed_r0, ed_r0, ed_r0, ed_r0]
      have e1 : ((i + 1 : Nat) : Int) * o = i * o + o := by rw [Int.natCast_add, Int.add_mul]; simp
      have e2 : ((i + 1 + 1 : Nat) : Int) * o = i * o + o + o := by rw [Int.natCast_add, Int.add_mul, e1]; simp
      have : (0 : Int) ≤ if x (i + 1) = y 0 then 0 else t := by split <;> omega
      omega
    | succ j jh => rw [ed_ss, ih (j + 1), jh, ih j, ed_ss]

theorem ed_pres (a t o : Int) (ha : 0 ≤ a) (ht : 0 ≤ t) (ho : 0 ≤ o) (p : Nat) : ∀ (x y : Nat → Int), (∀ n, n < p → x n = y n) → ∀ i j,
    ed x y a t o (p + i) (p + j) = ed (fun n => x (p + n)) (fun n => y (p + n)) a t o i j := by
  induction p with
  | zero => intro x y _ i j; simp only [Nat.zero_add]
  | succ p ih =>
    intro x y h i j
    have e1 : p + 1 + i = (p + i) + 1 := by omega
    have e2 : p + 1 + j = (p + j) + 1 := by omega
    rw [e1, e2, ed_pre x y a t o ha ht ho (h 0 (by omega)), ih _ _ (fun n hn => h (n + 1) (by omega))]
    have e3 : ∀ n, p + n + 1 = p + 1 + n := fun n => by omega
    simp only [e3]

theorem ed_sufs (x y : Nat → Int) (a t o : Int) (ha : 0 ≤ a) (ht : 0 ≤ t) (ho : 0 ≤ o) (i j : Nat) (q : Nat) :
    (∀ n, n < q → x (i + n) = y (j + n)) → ed x y a t o (i + q) (j + q) = ed x y a t o i j := by
  induction q with
  | zero => intro _; rfl
  | succ q ih =>
    intro h
    rw [show i + (q + 1) = (i + q) + 1 from rfl, show j + (q + 1) = (j + q) + 1 from rfl, ed_suf x y a t o ha ht ho _ _ (h q (by omega)), ih (fun n hn => h n (by omega))]

theorem ed_nonneg (x y : Nat → Int) (a t o : Int) (ha : 0 ≤ a) (ht : 0 ≤ t) (ho : 0 ≤ o) : ∀ i j, 0 ≤ ed x y a t o i j := by
  intro i
  induction i with
  | zero => intro j; rw [ed_0]; exact Int.mul_nonneg (by omega) ha
  | succ i ih =>
    intro j
    induction j with
    | zero => rw [ed_r0]; exact Int.mul_nonneg (by omega) ho
    | succ j jh =>
      rw [ed_ss]
      have := ih j
      have := ih (j + 1)
      have : (0 : Int) ≤ if x i = y j then 0 else t := by split <;> omega
      omega

theorem ed_le (x y : Nat → Int) (a t o : Int) : ∀ i j, ed x y a t o i j ≤ i * o + j * a := by
  intro i
  induction i with
  | zero => intro j; rw [ed_0]; simp
  | succ i ih =>
    intro j
    have h1 := ed_up x y a t o i j
    have := ih j
    have e1 : ((i + 1 : Nat) : Int) * o = i * o + o := by rw [Int.natCast_add, Int.add_mul]; simp
    omega

/-- what is read of the letters is all that counts. -/
theorem ed_congr (x y x' y' : Nat → Int) (a t o : Int) : ∀ i j, (∀ n, n < i → x n = x' n) → (∀ n, n < j → y n = y' n) → ed x y a t o i j = ed x' y' a t o i j := by
  intro i
  induction i with
  | zero => intro j _ _; rw [ed_0, ed_0]
  | succ i ih =>
    intro j
    induction j with
    | zero => intro _ _; rw [ed_r0, ed_r0]
    | succ j jh =>
      intro hx hy
      rw [ed_ss, ed_ss, ih (j + 1) (fun n h => hx n (by omega)) hy, jh hx (fun n h => hy n (by omega)), ih j (fun n h => hx n (by omega)) (fun n h => hy n (by omega)), hx i (by omega), hy j (by omega)]

/-- p is the length of the common beginning of the first l of x and the first m of y. -/
def IsPre (x y : Nat → Int) (l m p : Nat) : Prop := p ≤ l ∧ p ≤ m ∧ (∀ n, n < p → x n = y n) ∧ (p = l ∨ p = m ∨ x p ≠ y p)
theorem IsPre.le {x y : Nat → Int} {l m p q : Nat} (h : IsPre x y l m p) (g : IsPre x y l m q) : p ≤ q := by
  obtain ⟨h1, h2, h3, _⟩ := h
  obtain ⟨g1, g2, _, g4⟩ := g
  apply Nat.le_of_not_lt
  intro hlt
  rcases g4 with g4 | g4 | g4
  · omega
  · omega
  · exact g4 (h3 q hlt)
theorem IsPre.uniq {x y : Nat → Int} {l m p q : Nat} (h : IsPre x y l m p) (g : IsPre x y l m q) : p = q := Nat.le_antisymm (h.le g) (g.le h)

/-- q is the length of the common end of the first l of x and the first m of y. -/
def IsSuf (x y : Nat → Int) (l m q : Nat) : Prop := q ≤ l ∧ q ≤ m ∧ (∀ n, n < q → x (l - 1 - n) = y (m - 1 - n)) ∧ (q = l ∨ q = m ∨ x (l - 1 - q) ≠ y (m - 1 - q))
theorem IsSuf.le {x y : Nat → Int} {l m p q : Nat} (h : IsSuf x y l m p) (g : IsSuf x y l m q) : p ≤ q := by
  obtain ⟨h1, h2, h3, _⟩ := h
  obtain ⟨g1, g2, _, g4⟩ := g
  apply Nat.le_of_not_lt
  intro hlt
  rcases g4 with g4 | g4 | g4
  · omega
  · omega
  · exact g4 (h3 q hlt)
theorem IsSuf.uniq {x y : Nat → Int} {l m p q : Nat} (h : IsSuf x y l m p) (g : IsSuf x y l m q) : p = q := Nat.le_antisymm (h.le g) (g.le h)

/-- what lies between the common beginning and end is all that costs. -/
theorem ed_mid (x y : Nat → Int) (a t o : Int) (ha : 0 ≤ a) (ht : 0 ≤ t) (ho : 0 ≤ o) (l m p q : Nat) (hp : IsPre x y l m p)
    (hq : IsSuf (fun n => x (p + n)) (fun n => y (p + n)) (l - p) (m - p) q) :
    ed x y a t o l m = ed (fun n => x (p + n)) (fun n => y (p + n)) a t o (l - p - q) (m - p - q) := by
  obtain ⟨p1, p2, p3, _⟩ := hp
  obtain ⟨q1, q2, q3, _⟩ := hq
  have e1 : l = p + (l - p) := by omega
  have e2 : m = p + (m - p) := by omega
  have h1 := ed_pres a t o ha ht ho p x y p3 (l - p) (m - p)
  rw [← e1, ← e2] at h1
  rw [h1]
  have h2 := ed_sufs (fun n => x (p + n)) (fun n => y (p + n)) a t o ha ht ho (l - p - q) (m - p - q) q (by
    intro n hn
    have := q3 (q - 1 - n) (by omega)
    have g1 : l - p - 1 - (q - 1 - n) = l - p - q + n := by omega
    have g2 : m - p - 1 - (q - 1 - n) = m - p - q + n := by omega
    rw [g1, g2] at this
    exact this)
  have e3 : l - p - q + q = l - p := by omega
  have e4 : m - p - q + q = m - p := by omega
  rw [e3, e4] at h2
  exact h2
end Go.Proofs.YtmphoafjeojodaaDoor

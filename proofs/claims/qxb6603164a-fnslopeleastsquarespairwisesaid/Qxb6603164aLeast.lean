/-
  THE PLAIN LAW OF THE LEAST-SQUARES SLOPE (no Go in sight): the pairwise sums, their bounds, the rounded ratio.
-/
import Derived.Test.Qxb6603164aPlain
namespace Go.Proofs.Qxb6603164a.Plain

/-! ### the pairwise sum -/
/-- The pairs (i, j), j from i + 1 on: m of them. -/
def rowP (x y : Nat → Int) (i m : Nat) : Int := sumN (fun t => (x (i + 1 + t) - x i) * (y (i + 1 + t) - y i)) m
/-- All pairs (i, j) with i < k, i < j < n. -/
def triP (x y : Nat → Int) (n k : Nat) : Int := sumN (fun i => rowP x y i (n - (i + 1))) k
/-- The product's sum. -/
def dotN (x y : Nat → Int) (n : Nat) : Int := sumN (fun i => x i * y i) n

theorem rowP_succ (x y : Nat → Int) (i m : Nat) : rowP x y i (m + 1) = rowP x y i m + (x (i + 1 + m) - x i) * (y (i + 1 + m) - y i) := rfl
theorem rowP_zero (x y : Nat → Int) (i : Nat) : rowP x y i 0 = 0 := rfl
theorem triP_succ (x y : Nat → Int) (n k : Nat) : triP x y n (k + 1) = triP x y n k + rowP x y k (n - (k + 1)) := rfl
theorem dotN_succ (x y : Nat → Int) (n : Nat) : dotN x y (n + 1) = dotN x y n + x n * y n := rfl

theorem col_sum (x y : Nat → Int) (a b : Int) (m : Nat) : sumN (fun i => (a - x i) * (b - y i)) m = (m : Int) * (a * b) - a * sumN y m - sumN x m * b + dotN x y m := by
  induction m with
  | zero => simp [sumN, dotN]
  | succ m ih =>
    rw [sumN_succ, ih, sumN_succ, sumN_succ, dotN_succ]
    have e1 : (((m + 1 : Nat)) : Int) * (a * b) = (m : Int) * (a * b) + a * b := by
      rw [Int.natCast_add, Int.add_mul]; simp
    rw [e1]
    simp only [Int.mul_add, Int.add_mul, Int.mul_sub, Int.sub_mul]
    omega

theorem row_more (x y : Nat → Int) (n i : Nat) (h : i < n) : rowP x y i (n + 1 - (i + 1)) = rowP x y i (n - (i + 1)) + (x n - x i) * (y n - y i) := by
  have e : n + 1 - (i + 1) = (n - (i + 1)) + 1 := by omega
  have e2 : i + 1 + (n - (i + 1)) = n := by omega
  rw [e, rowP_succ, e2]

theorem tri_eq (x y : Nat → Int) (n : Nat) : triP x y n n = (n : Int) * dotN x y n - sumN x n * sumN y n := by
  induction n with
  | zero => simp [triP, sumN, dotN]
  | succ n ih =>
    have e1 : triP x y (n + 1) (n + 1) = sumN (fun i => rowP x y i (n + 1 - (i + 1))) n := by
      rw [triP_succ]
      have : n + 1 - (n + 1) = 0 := by omega
      rw [this, rowP_zero]
      show sumN _ n + 0 = _
      omega
    have e2 : sumN (fun i => rowP x y i (n + 1 - (i + 1))) n = sumN (fun i => rowP x y i (n - (i + 1)) + (x n - x i) * (y n - y i)) n := sumN_congr (fun i hi => row_more x y n i hi)
    rw [e1, e2, sumN_add, col_sum x y (x n) (y n) n]
    have e3 : sumN (fun i => rowP x y i (n - (i + 1))) n = (n : Int) * dotN x y n - sumN x n * sumN y n := ih
    rw [e3, sumN_succ, sumN_succ, dotN_succ]
    have e4 : (((n + 1 : Nat)) : Int) * (dotN x y n + x n * y n) = (n : Int) * dotN x y n + (n : Int) * (x n * y n) + dotN x y n + x n * y n := by
      rw [Int.natCast_add, Int.add_mul, Int.mul_add]; simp; omega
    rw [e4]
    simp only [Int.mul_add, Int.add_mul]
    omega

theorem sum_ge {f : Nat → Int} {n k : Nat} (h0 : ∀ i, i < n → 0 ≤ f i) (hk : k < n) : f k ≤ sumN f n := by
  have h1 := sumN_mono h0 (k + 1) n (by omega) (Nat.le_refl _)
  have h2 := sumN_nonneg h0 k (by omega)
  rw [sumN_succ] at h1
  omega

theorem sq_nonneg (a : Int) : 0 ≤ a * a := by
  rcases Int.le_total 0 a with h | h
  · exact Int.mul_nonneg h h
  · exact Int.mul_nonneg_of_nonpos_of_nonpos h h

theorem row_nonneg (x : Nat → Int) (i m : Nat) : 0 ≤ rowP x x i m := sumN_nonneg (n := m) (fun _ _ => sq_nonneg _) m (Nat.le_refl _)

/-- Two different xs: the pairwise sum of squares is positive. -/
theorem tri_pos {x : Nat → Int} {n j : Nat} (hj : j < n) (hne : x j ≠ x 0) : 1 ≤ triP x x n n := by
  have hj0 : j ≠ 0 := fun e => hne (by rw [e])
  obtain ⟨t, rfl⟩ : ∃ t, j = 1 + t := ⟨j - 1, by omega⟩
  have h1 : rowP x x 0 (n - 1) ≤ triP x x n n := sum_ge (f := fun i => rowP x x i (n - (i + 1))) (fun i _ => row_nonneg x i _) (by omega)
  have h2 : (x (0 + 1 + t) - x 0) * (x (0 + 1 + t) - x 0) ≤ rowP x x 0 (n - 1) := sum_ge (f := fun t => (x (0 + 1 + t) - x 0) * (x (0 + 1 + t) - x 0)) (fun _ _ => sq_nonneg _) (by omega)
  have h3 : 1 ≤ (x (0 + 1 + t) - x 0) * (x (0 + 1 + t) - x 0) := by
    rw [Nat.zero_add]
    rcases Int.lt_trichotomy (x (1 + t)) (x 0) with h | h | h
    · have := Int.mul_le_mul_of_nonneg_left (show (1 : Int) ≤ -(x (1 + t) - x 0) by omega) (show (0 : Int) ≤ -(x (1 + t) - x 0) by omega)
      rw [Int.neg_mul_neg] at this
      omega
    · exact absurd h hne
    · have := Int.mul_le_mul_of_nonneg_left (show (1 : Int) ≤ (x (1 + t) - x 0) by omega) (show (0 : Int) ≤ (x (1 + t) - x 0) by omega)
      omega
  omega

/-! ### bounds -/
theorem mul_abs {a b A B : Int} (a1 : -A ≤ a) (a2 : a ≤ A) (b1 : -B ≤ b) (b2 : b ≤ B) : -(A * B) ≤ a * b ∧ a * b ≤ A * B := by
  have h1 := Int.mul_nonneg (show 0 ≤ A - a by omega) (show 0 ≤ B + b by omega)
  have h2 := Int.mul_nonneg (show 0 ≤ A + a by omega) (show 0 ≤ B - b by omega)
  have h3 := Int.mul_nonneg (show 0 ≤ A - a by omega) (show 0 ≤ B - b by omega)
  have h4 := Int.mul_nonneg (show 0 ≤ A + a by omega) (show 0 ≤ B + b by omega)
  simp only [Int.mul_add, Int.add_mul, Int.mul_sub, Int.sub_mul] at h1 h2 h3 h4
  omega

theorem sum_abs {f : Nat → Int} {n : Nat} {A : Int} (h : ∀ i, i < n → -A ≤ f i ∧ f i ≤ A) : -((n : Int) * A) ≤ sumN f n ∧ sumN f n ≤ (n : Int) * A := by
  induction n with
  | zero => simp [sumN]
  | succ n ih =>
    have h1 := ih (fun i hi => h i (by omega))
    have h2 := h n (by omega)
    have e : (((n + 1 : Nat)) : Int) * A = (n : Int) * A + A := by rw [Int.natCast_add, Int.add_mul]; simp
    rw [e, sumN_succ]
    omega

/-- WHAT 'slopeDomain' SAYS YES TO, as the slope's law wants it. -/
structure Dom (x y : Nat → Int) (n : Nat) (bx by' : Int) : Prop where
  xs : ∀ i, i < n → -bx ≤ x i ∧ x i ≤ bx
  ys : ∀ i, i < n → -by' ≤ y i ∧ y i ≤ by'
  xx : (n : Int) * n * (bx * bx) ≤ 1152921504606846976
  xy : (n : Int) * n * (bx * by') ≤ 1152921504606846976

theorem tri_abs {x y : Nat → Int} {n : Nat} {A B M : Int} (hx : ∀ i, i < n → -A ≤ x i ∧ x i ≤ A) (hy : ∀ i, i < n → -B ≤ y i ∧ y i ≤ B) (hM : (n : Int) * n * (A * B) ≤ M) : -(2 * M) ≤ triP x y n n ∧ triP x y n n ≤ 2 * M := by
  rw [tri_eq]
  have h1 : ∀ i, i < n → -(A * B) ≤ x i * y i ∧ x i * y i ≤ A * B := fun i hi => mul_abs (hx i hi).1 (hx i hi).2 (hy i hi).1 (hy i hi).2
  have h2 := sum_abs h1
  have h3 : -((n : Int) * ((n : Int) * (A * B))) ≤ (n : Int) * dotN x y n ∧ (n : Int) * dotN x y n ≤ (n : Int) * ((n : Int) * (A * B)) := mul_abs (by omega) (Int.le_refl _) h2.1 h2.2
  have h4 := sum_abs hx
  have h5 := sum_abs hy
  have h6 := mul_abs h4.1 h4.2 h5.1 h5.2
  have e1 : (n : Int) * ((n : Int) * (A * B)) = (n : Int) * n * (A * B) := by rw [Int.mul_assoc]
  have e2 : (n : Int) * A * ((n : Int) * B) = (n : Int) * n * (A * B) := by
    rw [Int.mul_assoc, Int.mul_assoc, Int.mul_left_comm A]
  rw [e1] at h3
  rw [e2] at h6
  omega

/-- The sum of squares by itself is at most M. -/
theorem tri_sq {x : Nat → Int} {n : Nat} {A M : Int} (hx : ∀ i, i < n → -A ≤ x i ∧ x i ≤ A) (hM : (n : Int) * n * (A * A) ≤ M) : triP x x n n ≤ M := by
  rw [tri_eq]
  have h1 : ∀ i, i < n → -(A * A) ≤ x i * x i ∧ x i * x i ≤ A * A := fun i hi => mul_abs (hx i hi).1 (hx i hi).2 (hx i hi).1 (hx i hi).2
  have h2 := sum_abs h1
  have h3 : -((n : Int) * ((n : Int) * (A * A))) ≤ (n : Int) * dotN x x n ∧ (n : Int) * dotN x x n ≤ (n : Int) * ((n : Int) * (A * A)) := mul_abs (by omega) (Int.le_refl _) h2.1 h2.2
  have h4 := sq_nonneg (sumN x n)
  have e1 : (n : Int) * ((n : Int) * (A * A)) = (n : Int) * n * (A * A) := by rw [Int.mul_assoc]
  rw [e1] at h3
  omega

/-! ### the rounded ratio -/
/-- a / b, to the nearest, halves up (0 ≤ a, 0 < b). -/
def halfUp (a b : Int) : Int := (2 * a + b) / (2 * b)
/-- a / b, to the nearest, halves away from zero. -/
def ratio (a b : Int) : Int := if a < 0 then -(halfUp (-a) b) else halfUp a b

theorem halfUp_spec {a b : Int} (b1 : 1 ≤ b) : 2 * b * halfUp a b ≤ 2 * a + b ∧ 2 * a + b < 2 * b * halfUp a b + 2 * b := by
  unfold halfUp
  have h1 := Int.mul_ediv_add_emod (2 * a + b) (2 * b)
  have h2 := Int.emod_nonneg (2 * a + b) (show 2 * b ≠ 0 by omega)
  have h3 := Int.emod_lt_of_pos (2 * a + b) (show 0 < 2 * b by omega)
  omega

theorem halfUp_nonneg {a b : Int} (a0 : 0 ≤ a) (b1 : 1 ≤ b) : 0 ≤ halfUp a b := Int.ediv_nonneg (by omega) (by omega)

/-- It is at most the quotient and one. -/
theorem halfUp_lim {a b : Int} (b1 : 1 ≤ b) : halfUp a b ≤ a / b + 1 := by
  have h1 := Int.mul_ediv_add_emod a b
  have h3 := Int.emod_lt_of_pos a (show 0 < b by omega)
  have h4 : halfUp a b < a / b + 2 := by
    unfold halfUp
    apply Int.ediv_lt_of_lt_mul (by omega)
    have e : (a / b + 2) * (2 * b) = 2 * (b * (a / b)) + 4 * b := by
      rw [Int.add_mul, Int.mul_comm (a / b), Int.mul_assoc]; omega
    rw [e]
    omega
  omega

theorem halfUp_le {a b : Int} (a0 : 0 ≤ a) (b1 : 1 ≤ b) : halfUp a b ≤ a + 1 := by
  have h1 := halfUp_lim (a := a) b1
  have h2 := Int.ediv_le_self b a0
  omega

end Go.Proofs.Qxb6603164a.Plain

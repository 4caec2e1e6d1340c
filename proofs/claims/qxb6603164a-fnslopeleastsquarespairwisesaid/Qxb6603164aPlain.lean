/-
  THE PLAIN LAWS (no Go in sight): sums over a function of the index, wraps, the percentile's rank, sorted rows, the least-squares identity.
-/
import Derived.IntWalk
namespace Go.Proofs.Qxb6603164a.Plain
open Go.RowKit (wrap64)

/-- f 0 + .. + f (n - 1) -/
def sumN (f : Nat → Int) : Nat → Int
  | 0 => 0
  | n + 1 => sumN f n + f n

theorem sumN_zero (f : Nat → Int) : sumN f 0 = 0 := rfl
theorem sumN_succ (f : Nat → Int) (n : Nat) : sumN f (n + 1) = sumN f n + f n := rfl

theorem sumN_split (f : Nat → Int) (k m : Nat) : sumN f (k + m) = sumN f k + sumN (fun i => f (k + i)) m := by
  induction m with
  | zero => simp [sumN]
  | succ m ih =>
    rw [← Nat.add_assoc, sumN_succ, ih, sumN_succ]
    omega

theorem sumN_congr {f g : Nat → Int} {n : Nat} (h : ∀ i, i < n → f i = g i) : sumN f n = sumN g n := by
  induction n with
  | zero => rfl
  | succ n ih =>
    rw [sumN_succ, sumN_succ, ih (fun i hi => h i (by omega)), h n (by omega)]

theorem sumN_mono {f : Nat → Int} {n : Nat} (h : ∀ i, i < n → 0 ≤ f i) : ∀ m k, m ≤ k → k ≤ n → sumN f m ≤ sumN f k := by
  intro m k hmk hkn
  induction k with
  | zero => have : m = 0 := by omega
            subst this; exact Int.le_refl _
  | succ k ih =>
    by_cases e : m = k + 1
    · subst e; exact Int.le_refl _
    · have := ih (by omega) (by omega)
      have := h k (by omega)
      rw [sumN_succ]; omega

theorem sumN_nonneg {f : Nat → Int} {n : Nat} (h : ∀ i, i < n → 0 ≤ f i) (m : Nat) (hm : m ≤ n) : 0 ≤ sumN f m := sumN_mono h 0 m (by omega) hm

/-! ### wraps -/
theorem wrap_congr {a b : Int} (h : a % 18446744073709551616 = b % 18446744073709551616) : wrap64 a = wrap64 b := by unfold wrap64; omega
theorem wrap_emod (a : Int) : wrap64 a % 18446744073709551616 = a % 18446744073709551616 := by unfold wrap64; omega
theorem wrap_add_left (a b : Int) : wrap64 (wrap64 a + b) = wrap64 (a + b) := by unfold wrap64; omega
theorem wrap_add_right (a b : Int) : wrap64 (a + wrap64 b) = wrap64 (a + b) := by unfold wrap64; omega
theorem wrap_sub (a b : Int) : wrap64 (wrap64 a - wrap64 b) = wrap64 (a - b) := by unfold wrap64; omega
theorem wrap_wrap (a : Int) : wrap64 (wrap64 a) = wrap64 a := by unfold wrap64; omega
theorem wrap_mul (a b : Int) : wrap64 (wrap64 a * wrap64 b) = wrap64 (a * b) := by
  apply wrap_congr
  rw [Int.mul_emod, wrap_emod, wrap_emod, ← Int.mul_emod]
theorem wrap_mul_right (a b : Int) : wrap64 (a * wrap64 b) = wrap64 (a * b) := by
  apply wrap_congr
  rw [Int.mul_emod, wrap_emod, ← Int.mul_emod]
theorem wrap_zero : wrap64 0 = 0 := by unfold wrap64; decide

/-- COUNT SPLITS -/
theorem count_splits (f : Nat → Int) (k n : Nat) (h : k ≤ n) : wrap64 (wrap64 (sumN f k) + wrap64 (sumN (fun i => f (k + i)) (n - k))) = wrap64 (sumN f n) := by
  rw [wrap_add_left, wrap_add_right, ← sumN_split, Nat.add_sub_cancel' h]

/-! ### the percentile -/
/-- Where the total reaches r at all, there is a first place that reaches it. -/
theorem first_reach (f : Nat → Int) (r : Int) (hr : 1 ≤ r) : ∀ n, r ≤ sumN f n → ∃ k, k < n ∧ sumN f k < r ∧ r ≤ sumN f (k + 1) := by
  intro n
  induction n with
  | zero => intro h; simp [sumN] at h; omega
  | succ n ih =>
    intro h
    by_cases e : r ≤ sumN f n
    · obtain ⟨k, h1, h2, h3⟩ := ih e
      exact ⟨k, by omega, h2, h3⟩
    · exact ⟨n, by omega, by omega, h⟩

/-- .. and only one, where no count is negative. -/
theorem reach_unique {f : Nat → Int} {n : Nat} (h0 : ∀ i, i < n → 0 ≤ f i) {r : Int} {k l : Nat} (hk : k < n) (hl : l < n) (k1 : sumN f k < r) (k2 : r ≤ sumN f (k + 1)) (l1 : sumN f l < r) (l2 : r ≤ sumN f (l + 1)) : k = l := by
  rcases Nat.lt_trichotomy k l with h | h | h
  · have := sumN_mono h0 (k + 1) l (by omega) (by omega); omega
  · exact h
  · have := sumN_mono h0 (l + 1) k (by omega) (by omega); omega

theorem reach_mono {f : Nat → Int} {n : Nat} (h0 : ∀ i, i < n → 0 ≤ f i) {r s : Int} (hrs : r ≤ s) {k l : Nat} (hk : k < n) (k1 : sumN f k < r) (l2 : s ≤ sumN f (l + 1)) : k ≤ l := by
  rcases Nat.lt_or_ge l k with h | h
  · have := sumN_mono h0 (l + 1) k (by omega) (by omega); omega
  · exact h

theorem mul_bounds {q T : Int} (q1 : 1 ≤ q) (q2 : q ≤ 100) (T0 : 0 ≤ T) : T ≤ q * T ∧ q * T ≤ 100 * T :=
  ⟨by have := Int.mul_le_mul_of_nonneg_right q1 T0; omega, Int.mul_le_mul_of_nonneg_right q2 T0⟩

theorem rank_bounds {q T : Int} (q1 : 1 ≤ q) (q2 : q ≤ 100) (T0 : 1 ≤ T) : 1 ≤ (q * T + 99) / 100 ∧ (q * T + 99) / 100 ≤ T := by
  have := mul_bounds q1 q2 (T := T) (by omega)
  omega

theorem rank_mono {p q T : Int} (h : p ≤ q) (T0 : 0 ≤ T) : (p * T + 99) / 100 ≤ (q * T + 99) / 100 := by
  have := Int.mul_le_mul_of_nonneg_right h T0
  omega

/-! ### counting: how many of the first n are at most v -/
def cntLe (s : Nat → Int) (v : Int) (n : Nat) : Int := sumN (fun i => if s i ≤ v then 1 else 0) n

theorem cntLe_succ (s : Nat → Int) (v : Int) (n : Nat) : cntLe s v (n + 1) = cntLe s v n + if s n ≤ v then 1 else 0 := rfl
theorem cntLe_congr {s t : Nat → Int} {n : Nat} (h : ∀ i, i < n → s i = t i) (v : Int) : cntLe s v n = cntLe t v n := sumN_congr (fun i hi => by rw [h i hi])
theorem cntLe_le (s : Nat → Int) (v : Int) (n : Nat) : 0 ≤ cntLe s v n ∧ cntLe s v n ≤ n := by
  induction n with
  | zero => exact ⟨Int.le_refl _, Int.le_refl _⟩
  | succ n ih => rw [cntLe_succ]; split <;> omega
theorem cntLe_mono (s : Nat → Int) (v : Int) (m n : Nat) (h : m ≤ n) : cntLe s v m ≤ cntLe s v n :=
  sumN_mono (n := n) (fun i _ => by split <;> omega) m n h (Nat.le_refl _)
/-- all of the first m are at most v -/
theorem cntLe_all {s : Nat → Int} {v : Int} {m : Nat} (h : ∀ i, i < m → s i ≤ v) : cntLe s v m = m := by
  induction m with
  | zero => rfl
  | succ m ih => rw [cntLe_succ, ih (fun i hi => h i (by omega)), if_pos (h m (by omega))]; omega
/-- none from m on is at most v -/
theorem cntLe_none {s : Nat → Int} {v : Int} {m n : Nat} (hmn : m ≤ n) (h : ∀ i, m ≤ i → i < n → v < s i) : cntLe s v n = cntLe s v m := by
  induction n with
  | zero => have : m = 0 := by omega
            subst this; rfl
  | succ n ih =>
    by_cases e : m = n + 1
    · subst e; rfl
    · rw [cntLe_succ, ih (by omega) (fun i h1 h2 => h i h1 (by omega)), if_neg (by have := h n (by omega) (by omega); omega)]; omega

/-- The sample at place r (from 1) of a sorted list: the k at which the counts pass r. -/
theorem sorted_at {s : Nat → Int} {n : Nat} (hs : ∀ i j, i ≤ j → j < n → s i ≤ s j) {r : Nat} (r1 : 1 ≤ r) (rn : r ≤ n) {k : Int} (h1 : cntLe s (k - 1) n < r) (h2 : (r : Int) ≤ cntLe s k n) : s (r - 1) = k := by
  rcases Int.lt_trichotomy (s (r - 1)) k with h | h | h
  · have a1 : cntLe s (k - 1) r = r := cntLe_all (fun i hi => by have := hs i (r - 1) (by omega) (by omega); omega)
    have a2 := cntLe_mono s (k - 1) r n rn
    omega
  · exact h
  · have a1 : cntLe s k n = cntLe s k (r - 1) := cntLe_none (by omega) (fun i h3 h4 => by have := hs (r - 1) i h3 h4; omega)
    have a2 := (cntLe_le s k (r - 1)).2
    omega

/-- The histogram: how many of the first n equal v. -/
def hist (s : Nat → Int) (n : Nat) (v : Nat) : Int := sumN (fun i => if s i = (v : Int) then 1 else 0) n
theorem hist_succ (s : Nat → Int) (n v : Nat) : hist s (n + 1) v = hist s n v + if s n = (v : Int) then 1 else 0 := rfl
theorem hist_bounds (s : Nat → Int) (n v : Nat) : 0 ≤ hist s n v ∧ hist s n v ≤ n := by
  induction n with
  | zero => exact ⟨Int.le_refl _, Int.le_refl _⟩
  | succ n ih => rw [hist_succ]; split <;> omega
theorem sum_point (x : Int) (hx : 0 ≤ x) (k : Nat) : sumN (fun v => if x = (v : Int) then 1 else 0) k = if x ≤ (k : Int) - 1 then 1 else 0 := by
  induction k with
  | zero => rw [if_neg (by omega)]; rfl
  | succ k ih =>
    rw [sumN_succ, ih]
    by_cases h : x ≤ (k : Int) - 1
    · rw [if_pos h, if_neg (by omega), if_pos (by omega)]; rfl
    · rw [if_neg h]
      by_cases e : x = (k : Int)
      · rw [if_pos e, if_pos (by omega)]; rfl
      · rw [if_neg e, if_neg (by omega)]; rfl
theorem sumN_add (f g : Nat → Int) (n : Nat) : sumN (fun i => f i + g i) n = sumN f n + sumN g n := by
  induction n with
  | zero => rfl
  | succ n ih => rw [sumN_succ, sumN_succ, sumN_succ, ih]; omega
theorem sumN_const0 (n : Nat) : sumN (fun _ => 0) n = 0 := by
  induction n with
  | zero => rfl
  | succ n ih => rw [sumN_succ, ih]; rfl
/-- The histogram's sums count what is at most k - 1. -/
theorem hist_sum {s : Nat → Int} {n : Nat} (h0 : ∀ i, i < n → 0 ≤ s i) (k : Nat) : sumN (hist s n) k = cntLe s ((k : Int) - 1) n := by
  induction n with
  | zero => exact sumN_const0 k
  | succ n ih =>
    have e : sumN (hist s (n + 1)) k = sumN (fun v => hist s n v + if s n = (v : Int) then 1 else 0) k := sumN_congr (fun v _ => hist_succ s n v)
    rw [e, sumN_add, ih (fun i hi => h0 i (by omega)), sum_point _ (h0 n (by omega)), cntLe_succ]
theorem hist_total {s : Nat → Int} {n top : Nat} (h0 : ∀ i, i < n → 0 ≤ s i) (ht : ∀ i, i < n → s i ≤ top) : sumN (hist s n) (top + 1) = n := by
  rw [hist_sum h0]
  exact cntLe_all (fun i hi => by have := ht i hi; omega)

end Go.Proofs.Qxb6603164a.Plain

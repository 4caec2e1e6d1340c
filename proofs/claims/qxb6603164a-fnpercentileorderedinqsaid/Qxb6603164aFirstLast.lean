/-
  THE PLAIN LAW OF THE FIRST AND THE LAST ENTRY THAT IS NOT 0 (no Go in sight).
-/
import Derived.Test.Qxb6603164aPlain
namespace Go.Proofs.Qxb6603164a.Plain

def firstOf (f : Nat → Int) : Nat → Int
  | 0 => -1
  | k + 1 => if f k ≠ 0 ∧ firstOf f k < 0 then (k : Int) else firstOf f k

def lastOf (f : Nat → Int) : Nat → Int
  | 0 => -1
  | k + 1 => if f k ≠ 0 then (k : Int) else lastOf f k

theorem firstOf_zero (f : Nat → Int) : firstOf f 0 = -1 := rfl
theorem lastOf_zero (f : Nat → Int) : lastOf f 0 = -1 := rfl
theorem firstOf_no {f : Nat → Int} {k : Nat} (h : f k = 0) : firstOf f (k + 1) = firstOf f k := if_neg (fun h' => h'.1 h)
theorem firstOf_had {f : Nat → Int} {k : Nat} (h : 0 ≤ firstOf f k) : firstOf f (k + 1) = firstOf f k := if_neg (fun h' => by have := h'.2; omega)
theorem firstOf_new {f : Nat → Int} {k : Nat} (h : f k ≠ 0) (h' : firstOf f k < 0) : firstOf f (k + 1) = k := if_pos ⟨h, h'⟩
theorem lastOf_no {f : Nat → Int} {k : Nat} (h : f k = 0) : lastOf f (k + 1) = lastOf f k := if_neg (fun h' => h' h)
theorem lastOf_new {f : Nat → Int} {k : Nat} (h : f k ≠ 0) : lastOf f (k + 1) = k := if_pos h

theorem firstOf_bounds (f : Nat → Int) (k : Nat) : -1 ≤ firstOf f k ∧ firstOf f k < k := by
  induction k with
  | zero => exact ⟨Int.le_refl _, by rw [firstOf_zero]; omega⟩
  | succ k ih =>
    unfold firstOf
    split <;> omega

theorem lastOf_bounds (f : Nat → Int) (k : Nat) : -1 ≤ lastOf f k ∧ lastOf f k < k := by
  induction k with
  | zero => exact ⟨Int.le_refl _, by rw [lastOf_zero]; omega⟩
  | succ k ih =>
    unfold lastOf
    split <;> omega

theorem firstOf_le {f : Nat → Int} {k : Nat} (h : f k ≠ 0) : ∀ n, k < n → firstOf f n ≤ k := by
  intro n
  induction n with
  | zero => intro h; omega
  | succ n ih =>
    intro hk
    by_cases e : k = n
    · subst e
      by_cases h' : firstOf f k < 0
      · rw [firstOf_new h h']; exact Int.le_refl _
      · rw [firstOf_had (by omega)]; have := (firstOf_bounds f k).2; omega
    · have h1 := ih (by omega)
      by_cases h' : f n ≠ 0 ∧ firstOf f n < 0
      · -- the first is not had before n, though f k is not 0 and k is below n
        exfalso
        have h2 : ∀ m, k < m → 0 ≤ firstOf f m := by
          intro m
          induction m with
          | zero => intro h; omega
          | succ m ihm =>
            intro hm
            by_cases e2 : k = m
            · subst e2
              by_cases h3 : firstOf f k < 0
              · rw [firstOf_new h h3]; omega
              · rw [firstOf_had (by omega)]; omega
            · have := ihm (by omega)
              rw [firstOf_had this]; exact this
        have := h2 n (by omega)
        omega
      · have e3 : firstOf f (n + 1) = firstOf f n := if_neg h'
        rw [e3]; exact h1

theorem lastOf_eq {f : Nat → Int} {k : Nat} (h : f k ≠ 0) : ∀ n, k < n → (∀ i, k < i → i < n → f i = 0) → lastOf f n = k := by
  intro n
  induction n with
  | zero => intro h; omega
  | succ n ih =>
    intro hk hz
    by_cases e : k = n
    · subst e; exact lastOf_new h
    · rw [lastOf_no (hz n (by omega) (by omega))]
      exact ih (by omega) (fun i h1 h2 => hz i h1 (by omega))

/-- The place that the whole total reaches is the last entry that is not 0. -/
theorem last_reach {f : Nat → Int} {n k : Nat} (h0 : ∀ i, i < n → 0 ≤ f i) (hk : k < n) (h1 : sumN f k < sumN f n) (h2 : sumN f n ≤ sumN f (k + 1)) : lastOf f n = k := by
  refine lastOf_eq (by rw [sumN_succ] at h2; omega) n hk (fun i h3 h4 => ?_)
  have a1 := sumN_mono h0 (k + 1) i (by omega) (by omega)
  have a2 := sumN_mono h0 (i + 1) n (by omega) (Nat.le_refl _)
  have a3 := h0 i h4
  rw [sumN_succ] at a2
  omega

theorem first_reach_le {f : Nat → Int} {n k : Nat} {r : Int} (hk : k < n) (h1 : sumN f k < r) (h2 : r ≤ sumN f (k + 1)) : firstOf f n ≤ k :=
  firstOf_le (by rw [sumN_succ] at h2; omega) n hk

end Go.Proofs.Qxb6603164a.Plain

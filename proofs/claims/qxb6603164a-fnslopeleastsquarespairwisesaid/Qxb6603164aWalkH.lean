/-
  THE WALKS OF roundedRatio (29), roundsTo (25) AND Slope (23).
-/
import Derived.Test.Qxb6603164aWalkA
import Derived.Test.Qxb6603164aLeast
import Derived.WalkSmall
import Derived.Deep.QuietTactic
import Derived.BigQuiet
namespace Go.Proofs.Qxb6603164a
open Go.RowKit Plain

theorem val_eq {k : IntKind} {a b : Int} (h : a = b) : Value.int k a = .int k b := by rw [h]

/-- 'roundedRatio' of what is not negative. -/
theorem ratio_pos (a b : Int) (w : World) (a0 : 0 ≤ a) (a1 : a ≤ 2305843009213693952) (b1 : 1 ≤ b) (b2 : b ≤ 1152921504606846976) :
    Calls Try.prog 29 #[.int .i64 a, .int .i64 b] w fun e w' => e = .returned (.int .i64 (halfUp a b)) ∧ w' = w := by
  have h0 := halfUp_nonneg a0 b1
  have h1 := halfUp_le a0 b1
  unfold halfUp at *
  go_enter Try.func29, Try.ntmps29
  go_wp2_with fail
  go_ret
  exact ⟨rfl, rfl⟩

/-- 'roundedRatio' -/
theorem ratio_any (a b : Int) (w : World) (a0 : -2305843009213693952 ≤ a) (a1 : a ≤ 2305843009213693952) (b1 : 1 ≤ b) (b2 : b ≤ 1152921504606846976) :
    Calls Try.prog 29 #[.int .i64 a, .int .i64 b] w fun e w' => e = .returned (.int .i64 (ratio a b)) ∧ w' = w := by
  unfold ratio
  by_cases hneg : a < 0
  · rw [if_pos hneg]
    have h := ratio_pos (-a) b w (by omega) (by omega) b1 b2
    have h0 := halfUp_nonneg (a := -a) (by omega) b1
    have h1 := halfUp_le (a := -a) (by omega) b1
    go_enter Try.func29, Try.ntmps29
    go_wp2_with fail
    refine h.mono ?_
    clear h
    rintro e w' ⟨rfl, rfl⟩
    go_wp2_with fail
    go_ret
    exact ⟨rfl, rfl⟩
  · rw [if_neg hneg]
    exact ratio_pos a b w (by omega) a1 b1 b2

theorem rounds_pos (a b s : Int) (w : World) (a0 : 0 ≤ a) (a1 : a ≤ 2305843009213693952) (b1 : 1 ≤ b) (b2 : b ≤ 1152921504606846976) (s0 : 0 ≤ s) (h1 : 2 * b * s ≤ 2 * a + b) (h2 : 2 * a + b < 2 * b * s + 2 * b) (h3 : s ≤ a / b + 1)
    (h4 : 0 ≤ a / b) (h5 : a / b ≤ a) : Calls Try.prog 25 #[.int .i64 a, .int .i64 b, .int .i64 s] w fun e w' => e = .returned (.bool true) ∧ w' = w := by
  have hd : decide (2 * a < 2 * b * s + b) = true := decide_eq_true (by omega)
  go_enter Try.func25, Try.ntmps25
  go_wp2
  go_ret
  exact ⟨rfl, rfl⟩

theorem rounds_neg (m b s : Int) (w : World) (m0 : 0 < m) (m1 : m ≤ 2305843009213693952) (b1 : 1 ≤ b) (b2 : b ≤ 1152921504606846976) (s0 : s ≤ 0) (h1 : -(2 * m) - b ≤ 2 * b * s) (h2 : 2 * b * s < -(2 * m) + b) (h3 : -(m / b + 1) ≤ s)
    (h4 : 0 ≤ m / b) (h5 : m / b ≤ m) : Calls Try.prog 25 #[.int .i64 (-m), .int .i64 b, .int .i64 s] w fun e w' => e = .returned (.bool true) ∧ w' = w := by
  have hd : decide (2 * -m ≤ 2 * b * s + b) = true := decide_eq_true (by omega)
  go_enter Try.func25, Try.ntmps25
  go_wp2
  go_ret
  exact ⟨rfl, rfl⟩

/-- 'roundsTo' says yes to the rounded ratio. -/
theorem rounds_any (a b : Int) (w : World) (a0 : -2305843009213693952 ≤ a) (a1 : a ≤ 2305843009213693952) (b1 : 1 ≤ b) (b2 : b ≤ 1152921504606846976) :
    Calls Try.prog 25 #[.int .i64 a, .int .i64 b, .int .i64 (ratio a b)] w fun e w' => e = .returned (.bool true) ∧ w' = w := by
  unfold ratio
  by_cases hneg : a < 0
  · rw [if_pos hneg]
    obtain ⟨m, rfl⟩ : ∃ m, a = -m := ⟨-a, by omega⟩
    rw [Int.neg_neg]
    have hs := halfUp_spec (a := m) b1
    have hl := halfUp_lim (a := m) b1
    have h0 := halfUp_nonneg (a := m) (by omega) b1
    have e : 2 * b * -(halfUp m b) = -(2 * b * halfUp m b) := Int.mul_neg _ _
    exact rounds_neg m b _ w (by omega) (by omega) b1 b2 (by omega) (by rw [e]; omega) (by rw [e]; omega) (by omega) (Int.ediv_nonneg (by omega) (by omega)) (Int.ediv_le_self _ (by omega))
  · rw [if_neg hneg]
    have hs := halfUp_spec (a := a) b1
    exact rounds_pos a b _ w (by omega) a1 b1 b2 (halfUp_nonneg (by omega) b1) hs.1 hs.2 (halfUp_lim b1) (Int.ediv_nonneg (by omega) (by omega)) (Int.ediv_le_self _ (by omega))

/-! ### Slope -/
theorem arg_eq {x y : Nat → Int} {n : Nat} (h1 : -2305843009213693952 ≤ triP x y n n) (h2 : triP x y n n ≤ 2305843009213693952) :
    wrap64 (wrap64 ((n : Int) * wrap64 (dotN x y n)) - wrap64 (wrap64 (sumN x n) * wrap64 (sumN y n))) = triP x y n n := by
  rw [wrap_mul, wrap_mul_right, wrap_sub, ← tri_eq]
  exact IntWalk.wrap64_in _ ⟨by omega, by omega⟩

set_option maxHeartbeats 800000 in
theorem slope_any (ax ay : Option Addr) (n cx cy : Nat) (x y : Nat → Int) (w : World) (hn : n ≤ 4096) (hX : Reads .i64 w ax n x) (hY : Reads .i64 w ay n y)
    (a0 : -2305843009213693952 ≤ triP x y n n) (a1 : triP x y n n ≤ 2305843009213693952) (b1 : 1 ≤ triP x x n n) (b2 : triP x x n n ≤ 1152921504606846976) :
    Calls Try.prog 23 #[.slice ax n cx, .slice ay n cy] w fun e w' => e = .returned (.int .i64 (ratio (triP x y n n) (triP x x n n))) ∧ ∃ m, w' = w.drewN m := by
  have hA := arg_eq a0 a1
  have hB := arg_eq (x := x) (y := x) (n := n) (by omega) (by omega)
  have hr := fun m => ratio_any (triP x y n n) (triP x x n n) (w.drewN m) a0 a1 b1 b2
  have HAB : Hid ((wrap64 (wrap64 ((n : Int) * wrap64 (dotN x y n)) - wrap64 (wrap64 (sumN x n) * wrap64 (sumN y n))) = triP x y n n) ∧ (wrap64 (wrap64 ((n : Int) * wrap64 (dotN x x n)) - wrap64 (wrap64 (sumN x n) * wrap64 (sumN x n))) = triP x x n n)) := ⟨hA, hB⟩
  clear hA hB a0 a1 b1 b2
  go_enter Try.func23, Try.ntmps23
  go_wp2_with fail
  go_loopw [6, 7, 8, 9, 18] (fun s6 s7 s8 s9 i wr => ∃ k m : Nat, k ≤ n ∧ i = .int .i64 k ∧ s6 = .int .i64 (wrap64 (sumN x k)) ∧ s7 = .int .i64 (wrap64 (sumN y k)) ∧ s8 = .int .i64 (wrap64 (dotN x x k)) ∧ s9 = .int .i64 (wrap64 (dotN x y k)) ∧ wr = w.drewN m) (fun _ _ _ _ i _ => n - (intOf i).toNat)
  case atStart => exact ⟨0, 0, Nat.zero_le _, rfl, by rw [sumN_zero, wrap_zero], by rw [sumN_zero, wrap_zero], val_eq wrap_zero.symm, val_eq wrap_zero.symm, rfl⟩
  case round =>
    obtain ⟨k, m, hk, rfl, rfl, rfl, rfl, rfl, rfl⟩ := hrel
    by_cases hlt : k < n
    · obtain ⟨b, off, rfl, hc⟩ := hX (by omega)
      obtain ⟨b', off', rfl, hc'⟩ := hY (by omega)
      have hcx := hc k hlt
      have hcy := hc' k hlt
      have hkn : (k : Int) < (n : Int) := by omega
      clear hc hc' hX hY hr
      go_wp2_with fail
      go_quiet (fail)
      go_wp2_with fail
      go_roundw
      case rel => exact ⟨k + 1, _, by omega, by go_num, val_eq (by rw [sumN_succ, wrap_add_left]), val_eq (by rw [sumN_succ, wrap_add_left]), val_eq (by rw [dotN_succ, wrap_add_left, wrap_add_right]), val_eq (by rw [dotN_succ, wrap_add_left, wrap_add_right]), rfl⟩
      case measure => simp [intOf]; omega
    · obtain rfl : n = k := by omega
      clear hX hY
      go_wp2_with fail
      rw [HAB.out.1, HAB.out.2]
      refine (hr m).mono ?_
      clear hr
      rintro e w' ⟨rfl, rfl⟩
      go_wp2_with fail
      go_ret
      exact ⟨rfl, m, rfl⟩
end Go.Proofs.Qxb6603164a

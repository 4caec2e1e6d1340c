/-
  THE WALK OF FnPercentileNearestRank (3).
-/
import Derived.Test.Qxb6603164aWalkB
import Derived.WalkSmall
namespace Go.Proofs.Qxb6603164a
open Go.RowKit Plain

set_option maxHeartbeats 800000 in
theorem nearest_walk (a : Option Addr) (n c : Nat) (q : Int) (f : Nat → Int) (w : World) (ha : a = none → n = 0 ∧ c = 0) (hR : Reads .i64 w a n f) (hf : ∀ i, i < n → -9223372036854775808 ≤ f i ∧ f i ≤ 9223372036854775807) :
    Calls Try.prog 3 #[.slice a n c, .int .i64 q] w fun e w' => e = .returned (.bool true) ∧ Below w.heap.size w w' := by
  by_cases h20 : (1048576 : Int) < n
  · go_enter Try.func3, Try.ntmps3
    go_wp2
    go_ret
    exact ⟨rfl, Below.refl _ _⟩
  by_cases h17 : (131072 : Int) < n
  · go_enter Try.func3, Try.ntmps3
    go_wp2
    go_ret
    exact ⟨rfl, Below.refl _ _⟩
  by_cases hq1 : q < 1
  · go_enter Try.func3, Try.ntmps3
    go_wp2
    go_ret
    exact ⟨rfl, Below.refl _ _⟩
  have hd1 : decide (q < 1) = false := decide_eq_false hq1
  by_cases hq2 : 100 < q
  · go_enter Try.func3, Try.ntmps3
    go_wp2
    go_ret
    exact ⟨rfl, Below.refl _ _⟩
  have hd2 : decide (100 < q) = false := decide_eq_false hq2
  have htot := histTotal_any a n c f w (by omega) hR hf
  have hcl := cloneInts_any a n c f w (by omega) ha hR
  clear ha hR hf
  go_enter Try.func3, Try.ntmps3
  go_wp2_with (first | go_at_call 10; go_in)
  refine htot.mono ?_
  clear htot
  rintro e w' ⟨rfl, hs⟩
  rcases hs with rfl | ⟨rfl, hG⟩
  · go_wp2
    go_ret
    exact ⟨rfl, Below.refl _ _⟩
  have hT0 := good_sum hG
  have hT1 := hG.lim
  have hqT := mul_bounds (q := q) (by omega) (by omega) hT0
  obtain ⟨hqa, hqb⟩ := hqT
  by_cases hn0 : n = 0
  · subst hn0
    go_wp2_with fail
    refine hcl.mono ?_
    clear hcl
    rintro e w1 ⟨a', rfl, hF⟩
    have hp := pct_any a' 0 0 q f w1 (by omega) hF.reads hG (by omega) (by omega)
    go_wp2_with fail
    refine hp.mono ?_
    clear hp
    rintro e w2 ⟨rfl, v, rfl, hP⟩
    obtain rfl : v = -1 := hP.empty rfl
    go_wp2
    go_ret
    exact ⟨rfl, hF.bel⟩
  have hnl : (0 : Int) < n := by omega
  by_cases hTz : sumN f n = 0
  · rw [hTz]
    go_wp2
    go_ret
    exact ⟨rfl, Below.refl _ _⟩
  have hTb : (sumN f n == 0) = false := by simpa using hTz
  go_wp2_with fail
  refine hcl.mono ?_
  clear hcl
  rintro e w1 ⟨a', rfl, hF⟩
  have hp := pct_any a' n n q f w1 (by omega) hF.reads hG (by omega) (by omega)
  go_wp2_with fail
  refine hp.mono ?_
  clear hp
  rintro e w2 ⟨rfl, v, rfl, hP⟩
  obtain ⟨k, rfl, hk, hlow, hup⟩ := hP.full (by omega)
  obtain ⟨b, off, rfl, hc⟩ := hF.reads (by omega)
  have hbel := hF.bel
  clear hP hF hTz
  have hck := hc k hk
  have hkn : (k : Int) < n := by omega
  have hpos := hG.pos
  have hlim := hG.lim
  have hkk : 0 ≤ sumN f k := sumN_nonneg hpos k (by omega)
  have hku : sumN f k + f k ≤ sumN f n := by have h5 := sumN_mono hpos (k + 1) n (by omega) (Nat.le_refl _); rw [sumN_succ] at h5; exact h5
  have hfk : 0 ≤ f k := hpos k hk
  have h1 : 100 * sumN f k < q * sumN f n := by omega
  have h2 : q * sumN f n ≤ 100 * (sumN f k + f k) := by rw [sumN_succ] at hup; omega
  clear hlow hup hG
  go_wp2
  go_loop [8, 9] (fun s i => ∃ t : Nat, t ≤ k ∧ i = .int .i64 t ∧ s = .int .i64 (sumN f t)) (fun _ i => k - (intOf i).toNat)
  case atStart => exact ⟨0, Nat.zero_le _, rfl, rfl⟩
  case round =>
    obtain ⟨t, ht, rfl, rfl⟩ := hrel
    by_cases hlt : t < k
    · have hct := hc t (by omega)
      have hf0 := hpos t (by omega)
      have hs0 := sumN_nonneg hpos t (by omega)
      have hs1 : sumN f t + f t ≤ sumN f n := by have h5 := sumN_mono hpos (t + 1) n (by omega) (Nat.le_refl _); rw [sumN_succ] at h5; exact h5
      have htn : (t : Int) < n := by omega
      clear hc hpos
      go_wp2
      go_round
      case rel => exact ⟨t + 1, by omega, by go_num, by rw [sumN_succ]⟩
      case measure => simp [intOf]; omega
    · obtain rfl : t = k := by omega
      clear hc hpos
      go_wp2
      go_ret
      exact ⟨rfl, hbel⟩
end Go.Proofs.Qxb6603164a

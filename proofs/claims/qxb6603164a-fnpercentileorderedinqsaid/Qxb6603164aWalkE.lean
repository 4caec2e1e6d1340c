/-
  THE WALK OF FnPercentileOrderedInQ (4).
-/
import Derived.Test.Qxb6603164aWalkB
import Derived.Test.Qxb6603164aFirstLast
import Derived.WalkSmall
namespace Go.Proofs.Qxb6603164a
open Go.RowKit Plain

set_option maxHeartbeats 800000 in
theorem ordered_early (a : Option Addr) (n c : Nat) (q p : Int) (w : World) (h : (131072 : Int) < n ∨ q < 1 ∨ 100 < q ∨ p < 1 ∨ 100 < p) :
    Calls Try.prog 4 #[.slice a n c, .int .i64 q, .int .i64 p] w fun e w' => e = .returned (.bool true) ∧ Below w.heap.size w w' := by
  by_cases h20 : (1048576 : Int) < n
  · go_enter Try.func4, Try.ntmps4
    go_wp2
    go_ret
    exact ⟨rfl, Below.refl _ _⟩
  by_cases h17 : (131072 : Int) < n
  · go_enter Try.func4, Try.ntmps4
    go_wp2
    go_ret
    exact ⟨rfl, Below.refl _ _⟩
  by_cases hq1 : q < 1
  · go_enter Try.func4, Try.ntmps4
    go_wp2
    go_ret
    exact ⟨rfl, Below.refl _ _⟩
  have hd1 : decide (q < 1) = false := decide_eq_false hq1
  by_cases hq2 : 100 < q
  · go_enter Try.func4, Try.ntmps4
    go_wp2
    go_ret
    exact ⟨rfl, Below.refl _ _⟩
  have hd2 : decide (100 < q) = false := decide_eq_false hq2
  by_cases hp1 : p < 1
  · go_enter Try.func4, Try.ntmps4
    go_wp2
    go_ret
    exact ⟨rfl, Below.refl _ _⟩
  have hd3 : decide (p < 1) = false := decide_eq_false hp1
  by_cases hp2 : 100 < p
  · go_enter Try.func4, Try.ntmps4
    go_wp2
    go_ret
    exact ⟨rfl, Below.refl _ _⟩
  omega

set_option maxHeartbeats 1600000 in
theorem ordered_walk (a : Option Addr) (n c : Nat) (q p : Int) (f : Nat → Int) (w : World) (ha : a = none → n = 0 ∧ c = 0) (hR : Reads .i64 w a n f) (hf : ∀ i, i < n → -9223372036854775808 ≤ f i ∧ f i ≤ 9223372036854775807) :
    Calls Try.prog 4 #[.slice a n c, .int .i64 q, .int .i64 p] w fun e w' => e = .returned (.bool true) ∧ Below w.heap.size w w' := by
  by_cases hearly : (131072 : Int) < n ∨ q < 1 ∨ 100 < q ∨ p < 1 ∨ 100 < p
  · exact ordered_early a n c q p w hearly
  have h17 : ¬ (131072 : Int) < n := by omega
  have h20 : ¬ (1048576 : Int) < n := by omega
  have hq1 : 1 ≤ q := by omega
  have hq2 : q ≤ 100 := by omega
  have hp1 : 1 ≤ p := by omega
  have hp2 : p ≤ 100 := by omega
  have hd1 : decide (q < 1) = false := decide_eq_false (by omega)
  have hd2 : decide (100 < q) = false := decide_eq_false (by omega)
  have hd3 : decide (p < 1) = false := decide_eq_false (by omega)
  have hd4 : decide (100 < p) = false := decide_eq_false (by omega)
  clear hearly
  have htot := histTotal_any a n c f w (by omega) hR hf
  have hcl := cloneInts_any a n c f w (by omega) ha hR
  clear ha hR hf
  go_enter Try.func4, Try.ntmps4
  go_wp2_with (first | go_at_call 14; go_in)
  refine htot.mono ?_
  clear htot
  rintro e w' ⟨rfl, hs⟩
  rcases hs with rfl | ⟨rfl, hG⟩
  · go_wp2
    go_ret
    exact ⟨rfl, Below.refl _ _⟩
  by_cases hn0 : n = 0
  · subst hn0
    by_cases hqp : p < q
    · go_wp2
      go_ret
      exact ⟨rfl, Below.refl _ _⟩
    go_wp2_with fail
    refine hcl.mono ?_
    clear hcl
    rintro e w1 ⟨a', rfl, hF⟩
    have hp := fun x (h1 : 1 ≤ x) (h2 : x ≤ 100) => pct_any a' 0 0 x f w1 (by omega) hF.reads hG h1 h2
    go_wp2_with fail
    refine (hp q hq1 hq2).mono ?_
    rintro e w2 ⟨rfl, v, rfl, hP⟩
    obtain rfl : v = -1 := hP.empty rfl
    go_wp2_with fail
    refine (hp p hp1 hp2).mono ?_
    rintro e w2 ⟨rfl, v, rfl, hP⟩
    obtain rfl : v = -1 := hP.empty rfl
    go_wp2_with fail
    refine (hp 100 (by omega) (by omega)).mono ?_
    rintro e w2 ⟨rfl, v, rfl, hP⟩
    obtain rfl : v = -1 := hP.empty rfl
    go_wp2
    go_ret
    exact ⟨rfl, hF.bel⟩
  have hnl : (0 : Int) < n := by omega
  have hnz : ((n : Int) == 0) = false := by simpa using hn0
  have hT0 := good_sum hG
  by_cases hTz : sumN f n = 0
  · rw [hTz]
    go_wp2
    go_ret
    exact ⟨rfl, Below.refl _ _⟩
  have hTb : (sumN f n == 0) = false := by simpa using hTz
  by_cases hqp : p < q
  · go_wp2
    go_ret
    exact ⟨rfl, Below.refl _ _⟩
  go_wp2_with fail
  refine hcl.mono ?_
  clear hcl
  rintro e w1 ⟨a', rfl, hF⟩
  have hp := fun x (h1 : 1 ≤ x) (h2 : x ≤ 100) => pct_any a' n n x f w1 (by omega) hF.reads hG h1 h2
  go_wp2_with fail
  refine (hp q hq1 hq2).mono ?_
  rintro e w2 ⟨rfl, v, rfl, hP1⟩
  obtain ⟨k1, rfl, hk1, l1, u1⟩ := hP1.full (by omega)
  go_wp2_with fail
  refine (hp p hp1 hp2).mono ?_
  rintro e w2 ⟨rfl, v, rfl, hP2⟩
  obtain ⟨k2, rfl, hk2, l2, u2⟩ := hP2.full (by omega)
  go_wp2_with fail
  refine (hp 100 (by omega) (by omega)).mono ?_
  rintro e w2 ⟨rfl, v, rfl, hP3⟩
  obtain ⟨k3, rfl, hk3, l3, u3⟩ := hP3.full (by omega)
  clear hp
  have o12 : k1 ≤ k2 := reach_mono hG.pos (rank_mono (by omega) hT0) hk1 l1 u2
  have o23 : k2 ≤ k3 := reach_mono hG.pos (rank_mono hp2 hT0) hk2 l2 u3
  have hfi : firstOf f n ≤ k1 := first_reach_le hk1 l1 u1
  have hla : lastOf f n = k3 := last_reach hG.pos hk3 (by omega) (by omega)
  obtain ⟨b, off, rfl, hc⟩ := hF.reads (by omega)
  have hbel := hF.bel
  have HL : Hid (lastOf f n = k3) := hla
  clear hla hP1 hP2 hP3 hF hTz hTb l1 l2 l3 u1 u2 u3 hG hT0
  have hd5 : decide ((k2 : Int) < (k1 : Int)) = false := decide_eq_false (by omega)
  have hd6 : decide ((k3 : Int) < (k2 : Int)) = false := decide_eq_false (by omega)
  go_wp2
  go_loop [13, 14, 15] (fun s1 s2 i => ∃ t : Nat, t ≤ n ∧ i = .int .i64 t ∧ s1 = .int .i64 (firstOf f t) ∧ s2 = .int .i64 (lastOf f t)) (fun _ _ i => n - (intOf i).toNat)
  case atStart => exact ⟨0, Nat.zero_le _, rfl, rfl, rfl⟩
  case round =>
    obtain ⟨t, ht, rfl, rfl, rfl⟩ := hrel
    by_cases hlt : t < n
    · have hct := hc t hlt
      clear hc
      by_cases hz : f t = 0
      · have hzb : (f t != 0) = false := by simpa using hz
        have HZ : Hid (f t = 0) := hz
        clear hz
        go_wp2
        go_round
        case rel => exact ⟨t + 1, by omega, by go_num, by rw [firstOf_no HZ.out], by rw [lastOf_no HZ.out]⟩
        case measure => simp [intOf]; omega
      · have hzb : (f t != 0) = true := by simpa using hz
        by_cases hneg : firstOf f t < 0
        · go_wp2
          go_round
          case rel => exact ⟨t + 1, by omega, by go_num, by rw [firstOf_new hz hneg], by rw [lastOf_new hz]⟩
          case measure => simp [intOf]; omega
        · go_wp2
          go_round
          case rel => exact ⟨t + 1, by omega, by go_num, by rw [firstOf_had (by omega)], by rw [lastOf_new hz]⟩
          case measure => simp [intOf]; omega
    · obtain rfl : t = n := by omega
      have hla := HL.out
      rw [hla]
      clear hc hla HL
      go_wp2
      go_ret
      exact ⟨rfl, hbel⟩
end Go.Proofs.Qxb6603164a

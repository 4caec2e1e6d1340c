/-
  THE WALKS OF histTotal (11) AND Percentile (13).
-/
import Derived.Test.Qxb6603164aWalkA
namespace Go.Proofs.Qxb6603164a
open Go.RowKit Plain

/-- What 'histTotal' says yes to: no count below 0, a total of at most pctLimit. -/
structure Good (f : Nat → Int) (n : Nat) : Prop where
  pos : ∀ i, i < n → 0 ≤ f i
  lim : sumN f n ≤ 92233720368547757

theorem good_step {f : Nat → Int} {k : Nat} (h : Good f k) (h0 : 0 ≤ f k) (h1 : sumN f k + f k ≤ 92233720368547757) : Good f (k + 1) :=
  ⟨fun i hi => by
    by_cases e : i = k
    · subst e; exact h0
    · exact h.pos i (by omega), by rw [sumN_succ]; exact h1⟩

theorem good_sum {f : Nat → Int} {k : Nat} (h : Good f k) : 0 ≤ sumN f k := sumN_nonneg h.pos k (Nat.le_refl _)

/-- What 'histTotal' answers: (0, false); or (the total, true), and then all is good. -/
def TotalSays (f : Nat → Int) (n : Nat) (e : Ending) : Prop :=
  e = .returned (.tuple #[.int .i64 0, .bool false]) ∨ (e = .returned (.tuple #[.int .i64 (sumN f n), .bool true]) ∧ Good f n)

theorem histTotal_any (a : Option Addr) (n c : Nat) (f : Nat → Int) (w : World) (hn : n ≤ 1048576) (hR : Reads .i64 w a n f) (hf : ∀ i, i < n → -9223372036854775808 ≤ f i ∧ f i ≤ 9223372036854775807) :
    Calls Try.prog 11 #[.slice a n c] w fun e w' => w' = w ∧ TotalSays f n e := by
  go_enter Try.func11, Try.ntmps11
  go_wp2
  go_loop [4, 5] (fun t i => ∃ k : Nat, k ≤ n ∧ i = .int .i64 k ∧ t = .int .i64 (sumN f k) ∧ Good f k) (fun _ i => n - (intOf i).toNat)
  case atStart => exact ⟨0, Nat.zero_le _, rfl, rfl, ⟨fun i hi => absurd hi (Nat.not_lt_zero _), by rw [sumN_zero]; decide⟩⟩
  case round =>
    obtain ⟨k, hk, rfl, rfl, hG⟩ := hrel
    by_cases hlt : k < n
    · obtain ⟨b, off, rfl, hc⟩ := hR (by omega)
      have hcell := hc k hlt
      have hfk := hf k hlt
      have hg1 := good_sum hG
      have hg2 := hG.lim
      clear hc hR hf
      by_cases h0 : f k < 0
      · go_wp2
        go_ret2
        exact ⟨rfl, .inl rfl⟩
      · have hd : decide (f k < 0) = false := decide_eq_false h0
        by_cases h1 : 92233720368547757 - sumN f k < f k
        · go_wp2
          go_ret2
          exact ⟨rfl, .inl rfl⟩
        · have hS := good_step hG (by omega) (by omega)
          go_wp2
          go_round
          case rel => exact ⟨k + 1, by omega, by go_num, by rw [sumN_succ], hS⟩
          case measure => simp [intOf]; omega
    · have : k = n := by omega
      subst this
      clear hR hf
      go_wp2
      go_ret2
      exact ⟨rfl, .inr ⟨rfl, hG⟩⟩

/-- What 'Percentile' gives: the empty histogram: -1; else the value whose samples hold the place. -/
structure PctIs (f : Nat → Int) (n : Nat) (q v : Int) : Prop where
  empty : n = 0 → v = -1
  full : 1 ≤ sumN f n → ∃ k : Nat, v = k ∧ k < n ∧ sumN f k < (q * sumN f n + 99) / 100 ∧ (q * sumN f n + 99) / 100 ≤ sumN f (k + 1)

/-- The loop behind the rank r. -/
def Reached (f : Nat → Int) (n : Nat) (r v : Int) : Prop := (∃ k : Nat, v = k ∧ k < n ∧ sumN f k < r ∧ r ≤ sumN f (k + 1)) ∨ (v = (n : Int) - 1 ∧ sumN f n < r)

theorem pctIs_of {f : Nat → Int} {n : Nat} {q r v : Int} (hr : r = max 1 ((q * sumN f n + 99) / 100)) (q1 : 1 ≤ q) (q2 : q ≤ 100) (h : Reached f n r v) : PctIs f n q v := by
  refine ⟨fun e => ?_, fun hT => ?_⟩
  · subst e
    rcases h with ⟨k, _, hk, _⟩ | ⟨rfl, _⟩
    · omega
    · rfl
  · have hb := rank_bounds q1 q2 hT
    have e : r = (q * sumN f n + 99) / 100 := by omega
    rcases h with ⟨k, h1, h2, h3, h4⟩ | ⟨_, h2⟩
    · exact ⟨k, h1, h2, by omega, by omega⟩
    · omega

theorem int_of {k : IntKind} {a b : Int} (h : a = b) : Value.int k a = .int k b := by rw [h]

set_option maxHeartbeats 400000 in
theorem pct_above (a : Option Addr) (n c : Nat) (q T : Int) (f : Nat → Int) (w : World) (hn : n ≤ 1048576) (hR : Reads .i64 w a n f) (hG : Good f n) (hqa : 0 ≤ q * T) (hqb : q * T ≤ 9223372036854775700)
    (HT : Hid (T = sumN f n)) (hr : 1 < (q * T + 99) / 100) :
    Calls Try.prog 13 #[.slice a n c, .int .i64 q] w fun e w' => w' = w ∧ ∃ v : Int, e = .returned (.int .i64 v) ∧ Reached f n ((q * T + 99) / 100) v := by
  have hcnt := count_any a n c f w (by omega) hR
  have hw : wrap64 (sumN f n) = T := by rw [HT.out]; exact IntWalk.wrap64_in _ ⟨by have := good_sum hG; omega, by have := hG.lim; omega⟩
  rw [hw] at hcnt
  clear hw
  go_enter Try.func13, Try.ntmps13
  go_wp2_with (go_at_call 17; refine hcnt.mono ?_; rintro e w' ⟨rfl, rfl⟩)
  clear hcnt
  go_loop [6, 18] (fun t i => ∃ k : Nat, k ≤ n ∧ i = .int .i64 k ∧ t = .int .i64 (sumN f k) ∧ sumN f k < (q * T + 99) / 100) (fun _ i => n - (intOf i).toNat)
  case atStart => exact ⟨0, Nat.zero_le _, rfl, rfl, by rw [sumN_zero]; omega⟩
  case round =>
    obtain ⟨k, hk, rfl, rfl, hlow⟩ := hrel
    have hs0 := sumN_nonneg hG.pos k hk
    by_cases hlt : k < n
    · obtain ⟨b, off, rfl, hc⟩ := hR (by omega)
      have hcell := hc k hlt
      have h0 := hG.pos k hlt
      have hlim : sumN f k + f k ≤ 92233720368547757 := by have h5 := sumN_mono hG.pos (k + 1) n (by omega) (Nat.le_refl _); have := hG.lim; rw [sumN_succ] at h5; omega
      clear hc hR hG
      by_cases hge : (q * T + 99) / 100 ≤ sumN f k + f k
      · go_wp2
        go_ret
        exact ⟨rfl, _, rfl, .inl ⟨k, rfl, hlt, hlow, by rw [sumN_succ]; exact hge⟩⟩
      · go_wp2
        go_round
        case rel => exact ⟨k + 1, by omega, by go_num, by rw [sumN_succ], by rw [sumN_succ]; omega⟩
        case measure => simp [intOf]; omega
    · have : k = n := by omega
      subst this
      clear hR hG
      go_wp2
      go_ret
      exact ⟨rfl, _, rfl, .inr ⟨rfl, hlow⟩⟩

set_option maxHeartbeats 400000 in
theorem pct_one (a : Option Addr) (n c : Nat) (q T : Int) (f : Nat → Int) (w : World) (hn : n ≤ 1048576) (hR : Reads .i64 w a n f) (hG : Good f n) (hqa : 0 ≤ q * T) (hqb : q * T ≤ 9223372036854775700)
    (HT : Hid (T = sumN f n)) (hr : (q * T + 99) / 100 ≤ 1) :
    Calls Try.prog 13 #[.slice a n c, .int .i64 q] w fun e w' => w' = w ∧ ∃ v : Int, e = .returned (.int .i64 v) ∧ Reached f n (1) v := by
  have hcnt := count_any a n c f w (by omega) hR
  have hw : wrap64 (sumN f n) = T := by rw [HT.out]; exact IntWalk.wrap64_in _ ⟨by have := good_sum hG; omega, by have := hG.lim; omega⟩
  rw [hw] at hcnt
  clear hw
  go_enter Try.func13, Try.ntmps13
  go_wp2_with (go_at_call 17; refine hcnt.mono ?_; rintro e w' ⟨rfl, rfl⟩)
  clear hcnt
  go_loop [6, 18] (fun t i => ∃ k : Nat, k ≤ n ∧ i = .int .i64 k ∧ t = .int .i64 (sumN f k) ∧ sumN f k < 1) (fun _ i => n - (intOf i).toNat)
  case atStart => exact ⟨0, Nat.zero_le _, rfl, rfl, by rw [sumN_zero]; omega⟩
  case round =>
    obtain ⟨k, hk, rfl, rfl, hlow⟩ := hrel
    have hs0 := sumN_nonneg hG.pos k hk
    by_cases hlt : k < n
    · obtain ⟨b, off, rfl, hc⟩ := hR (by omega)
      have hcell := hc k hlt
      have h0 := hG.pos k hlt
      have hlim : sumN f k + f k ≤ 92233720368547757 := by have h5 := sumN_mono hG.pos (k + 1) n (by omega) (Nat.le_refl _); have := hG.lim; rw [sumN_succ] at h5; omega
      clear hc hR hG
      by_cases hge : 1 ≤ sumN f k + f k
      · go_wp2
        go_ret
        exact ⟨rfl, _, rfl, .inl ⟨k, rfl, hlt, hlow, by rw [sumN_succ]; exact hge⟩⟩
      · go_wp2
        go_round
        case rel => exact ⟨k + 1, by omega, by go_num, by rw [sumN_succ], by rw [sumN_succ]; omega⟩
        case measure => simp [intOf]; omega
    · have : k = n := by omega
      subst this
      clear hR hG
      go_wp2
      go_ret
      exact ⟨rfl, _, rfl, .inr ⟨rfl, hlow⟩⟩

/-- 'Percentile' of a histogram in its domain. -/
theorem pct_any (a : Option Addr) (n c : Nat) (q : Int) (f : Nat → Int) (w : World) (hn : n ≤ 1048576) (hR : Reads .i64 w a n f) (hG : Good f n) (q1 : 1 ≤ q) (q2 : q ≤ 100) :
    Calls Try.prog 13 #[.slice a n c, .int .i64 q] w fun e w' => w' = w ∧ ∃ v : Int, e = .returned (.int .i64 v) ∧ PctIs f n q v := by
  have h0 := good_sum hG
  have hb := mul_bounds q1 q2 h0
  have hl := hG.lim
  rcases Int.lt_or_le 1 ((q * sumN f n + 99) / 100) with hr | hr
  · refine (pct_above a n c q (sumN f n) f w hn hR hG (by omega) (by omega) rfl hr).mono ?_
    rintro e w' ⟨rfl, v, rfl, h⟩
    exact ⟨rfl, v, rfl, pctIs_of (by omega) q1 q2 h⟩
  · refine (pct_one a n c q (sumN f n) f w hn hR hG (by omega) (by omega) rfl hr).mono ?_
    rintro e w' ⟨rfl, v, rfl, h⟩
    exact ⟨rfl, v, rfl, pctIs_of (by omega) q1 q2 h⟩
end Go.Proofs.Qxb6603164a

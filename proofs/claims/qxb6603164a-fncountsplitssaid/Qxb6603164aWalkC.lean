/-
  THE WALK OF FnCountSplits (6).
-/
import Derived.Test.Qxb6603164aWalkA
import Derived.WalkSmall
import Derived.Deep.QuietTactic
import Derived.BigQuiet
namespace Go.Proofs.Qxb6603164a
open Go.RowKit Plain

theorem Reads.drewN {k : IntKind} {w : World} {a : Option Addr} {n : Nat} {f : Nat → Int} (h : Reads k w a n f) (m : Nat) : Reads k (w.drewN m) a n f := by
  intro hn
  obtain ⟨b, off, e, hc⟩ := h hn
  exact ⟨b, off, e, fun i hi => by simpa using hc i hi⟩

theorem wrap_range (a : Int) : -9223372036854775808 ≤ wrap64 a ∧ wrap64 a ≤ 9223372036854775807 := by unfold wrap64; omega

theorem Try.elem22 : Try.prog.elem 22 = 3 := by kernel_rfl
theorem Try.size3 (w : World) : (sizeOf 3).run Try.prog w = .ok 1 w := by kernel_rfl

/-- 'h[j:j+1]' -/
theorem slice_one (b off n j : Nat) (hj : j < n) (w : World) :
    (Instr.slice 22 (.slice (some ⟨b, off, none⟩) n n) (some (.int .i64 (j : Int))) (some (.int .i64 ((j : Int) + 1))) none).run Try.prog w = .ok (.slice (some ⟨b, off + j, none⟩) 1 (n - j)) w := by
  rw [run_slice_lh (P := Try.prog) w 22 (some ⟨b, off, none⟩) n n (by rw [Try.elem22]; exact Try.underlying22) .i64 .i64 (j : Int) ((j : Int) + 1) (by omega) (by omega) (by omega), Try.elem22, Try.size3]
  have e : (((j : Int) + 1).toNat) = j + 1 := by omega
  have hne : ¬ n = j := by omega
  simp [Result.andThen, sliced, e, Addr.add, hne]

set_option maxHeartbeats 400000 in
theorem splits_walk (a : Option Addr) (n c : Nat) (k : Int) (f : Nat → Int) (w : World) (ha : a = none → n = 0 ∧ c = 0) (hR : Reads .i64 w a n f) (hf : ∀ i, i < n → -9223372036854775808 ≤ f i ∧ f i ≤ 9223372036854775807) :
    Calls Try.prog 6 #[.slice a n c, .int .i64 k] w fun e w' => e = .returned (.bool true) ∧ Below w.heap.size w w' := by
  by_cases h20 : (1048576 : Int) < n
  · go_enter Try.func6, Try.ntmps6
    go_wp2
    go_ret
    exact ⟨rfl, Below.refl _ _⟩
  by_cases h17 : (131072 : Int) < n
  · go_enter Try.func6, Try.ntmps6
    go_wp2
    go_ret
    exact ⟨rfl, Below.refl _ _⟩
  by_cases hk0 : k < 0
  · go_enter Try.func6, Try.ntmps6
    go_wp2
    go_ret
    exact ⟨rfl, Below.refl _ _⟩
  have hd0 : decide (k < 0) = false := decide_eq_false hk0
  by_cases hk1 : (n : Int) < k
  · go_enter Try.func6, Try.ntmps6
    go_wp2
    go_ret
    exact ⟨rfl, Below.refl _ _⟩
  obtain ⟨j, rfl⟩ : ∃ j : Nat, k = j := ⟨k.toNat, by omega⟩
  have hcl := cloneInts_any a n c f w (by omega) ha hR
  go_enter Try.func6, Try.ntmps6
  go_wp2_with (first | go_at_call 19; go_in)
  refine hcl.mono ?_
  clear hcl
  rintro e w1 ⟨a', rfl, hF⟩
  have hc1 := count_any a' n n f w1 (by omega) hF.reads
  have hsp : (wrap64 (wrap64 (sumN f j) + wrap64 (sumN (fun i => f (j + i)) (n - j))) != wrap64 (sumN f n)) = false := by rw [count_splits f j n (by omega)]; simp
  by_cases hj : j < n
  · obtain ⟨b, off, rfl, hc⟩ := hF.reads (by omega)
    have hc2 := count_any (some ⟨b, off, none⟩) j n f w1 (by omega) (fun _ => ⟨b, off, rfl, fun i hi => hc i (by omega)⟩)
    have hcell : w1.cell? ⟨b, off + j, none⟩ = some (.int .i64 (f j)) := hc j hj
    have hc3 := count_any (some ⟨b, off + j, none⟩) (n - j) (n - j) (fun i => f (j + i)) w1 (by omega) (fun _ => ⟨b, off + j, rfl, fun i hi => by rw [Nat.add_assoc]; exact hc (j + i) (by omega)⟩)
    have hc4 := count_any (some ⟨b, off + j, none⟩) 0 (n - j) f w1 (by omega) (reads_nil _ _ _ _)
    rw [sumN_zero, wrap_zero] at hc4
    have hc5 := fun m => count_any (some ⟨b, off + j, none⟩) 1 (n - j) (fun i => f (j + i)) (w1.drewN m) (by omega) (Reads.drewN (fun _ => ⟨b, off + j, rfl, fun i hi => by rw [Nat.add_assoc]; exact hc (j + i) (by omega)⟩) m)
    have e5 : wrap64 (sumN (fun i => f (j + i)) 1) = f j := by
      have h5 := hf j hj
      rw [sumN_succ, sumN_zero, Int.zero_add]
      exact IntWalk.wrap64_in _ h5
    simp only [e5] at hc5
    have hjl : (j : Int) < (n : Int) := by omega
    have hsl := slice_one b off n j hj
    clear hc hR ha hf e5
    go_wp2_with fail
    refine hc1.mono ?_
    rintro e w2 ⟨rfl, rfl⟩
    go_wp2_with fail
    refine hc2.mono ?_
    rintro e w3 ⟨rfl, rfl⟩
    go_wp2_with fail
    refine hc3.mono ?_
    rintro e w3 ⟨rfl, rfl⟩
    go_wp2_with fail
    refine hc4.mono ?_
    rintro e w3 ⟨rfl, rfl⟩
    go_wp2_with fail
    go_quiet ((go_at_call 17; exact Calls.quiet_of_same (hc5 _)))
    go_wp2
    go_ret
    exact ⟨rfl, below_drewN hF.bel _⟩
  · obtain rfl : j = n := by omega
    have hdl : decide ((j : Int) < (j : Int)) = false := decide_eq_false (by omega)
    obtain ⟨S, hS⟩ : ∃ S, wrap64 (sumN f j) = S := ⟨_, rfl⟩
    have hS1 : -9223372036854775808 ≤ S ∧ S ≤ 9223372036854775807 := by rw [← hS]; exact wrap_range _
    rw [hS] at hc1
    have hcz : ∀ (x : Option Addr) (cc : Nat), Calls Try.prog 17 #[.slice x 0 cc] w1 fun e w' => e = .returned (.int .i64 0) ∧ w' = w1 := fun x cc => by
      have h := count_any x 0 cc f w1 (by omega) (reads_nil _ _ _ _)
      rw [sumN_zero, wrap_zero] at h
      exact h
    have hS0 : j = 0 → S = 0 := fun e => by rw [← hS, e, sumN_zero, wrap_zero]
    clear hsp hS hR ha hf hj
    cases a' with
    | none =>
      obtain rfl : j = 0 := hF.nil rfl
      obtain rfl : S = 0 := hS0 rfl
      clear hS0 hc1
      go_wp2_with (go_at_call 17; refine (hcz _ _).mono ?_; rintro e w2 ⟨rfl, rfl⟩)
      go_quiet (fail)
      go_wp2
      go_ret
      exact ⟨rfl, below_drewN hF.bel _⟩
    | some x =>
      clear hS0
      go_wp2_with fail
      refine hc1.mono ?_
      rintro e w2 ⟨rfl, rfl⟩
      go_wp2_with fail
      refine hc1.mono ?_
      rintro e w2 ⟨rfl, rfl⟩
      clear hc1
      go_wp2_with (go_at_call 17; refine (hcz _ _).mono ?_; rintro e w2 ⟨rfl, rfl⟩)
      go_quiet (fail)
      go_wp2
      go_ret
      exact ⟨rfl, below_drewN hF.bel _⟩
end Go.Proofs.Qxb6603164a

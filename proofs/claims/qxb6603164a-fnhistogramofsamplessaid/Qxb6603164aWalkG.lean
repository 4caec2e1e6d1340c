/-
  THE WALK OF FnHistogramOfSamples (5).
-/
import Derived.Test.Qxb6603164aWalkB
import Derived.Test.Qxb6603164aWalkF
namespace Go.Proofs.Qxb6603164a
open Go.RowKit Plain

theorem Reads.drawn {k : IntKind} {w : World} {a : Option Addr} {n : Nat} {f : Nat → Int} (h : Reads k w a n f) (m : Nat) : Reads k (w.drewN m) a n f := by
  intro hn
  obtain ⟨b, off, e, hc⟩ := h hn
  exact ⟨b, off, e, fun i hi => by simpa using hc i hi⟩

/-- 'Percentile' where the place is known. -/
theorem pct_at (a : Option Addr) (n c : Nat) (q : Int) (f : Nat → Int) (w : World) (hn : n ≤ 1048576) (hR : Reads .i64 w a n f) (hG : Good f n) (q1 : 1 ≤ q) (q2 : q ≤ 100) (hT : 1 ≤ sumN f n) (k : Nat) (hk : k < n)
    (h1 : sumN f k < (q * sumN f n + 99) / 100) (h2 : (q * sumN f n + 99) / 100 ≤ sumN f (k + 1)) :
    Calls Try.prog 13 #[.slice a n c, .int .i64 q] w fun e w' => e = .returned (.int .i64 k) ∧ w' = w := by
  refine (pct_any a n c q f w hn hR hG q1 q2).mono ?_
  rintro e w' ⟨rfl, v, rfl, hP⟩
  obtain ⟨l, rfl, hl, l1, l2⟩ := hP.full hT
  obtain rfl := reach_unique hG.pos hk hl h1 h2 l1 l2
  exact ⟨rfl, rfl⟩

/-- The histogram's row when k samples are counted. -/
structure Hi (w wr : World) (f : Nat → Int) (M k : Nat) : Prop where
  bel : Below w.heap.size w wr
  row : wr.rowIs w.heap.size 3 (M + 1) (fun v => .int .i64 (hist f k v))

theorem hi_start (w : World) (f : Nat → Int) (M : Nat) : Hi w (w.alloc (.cells (madeCells #[.int .i64 0] (M + 1)) 3)) f M 0 :=
  ⟨(Below.refl _ _).alloc (Nat.le_refl _) _, World.rowIs_made w _ (M + 1) 3⟩

theorem hi_step {w wr : World} {f : Nat → Int} {M k x : Nat} (h : Hi w wr f M k) (hx : f k = x) : Hi w (wr.setCell ⟨w.heap.size, x, none⟩ (.int .i64 (hist f k x + 1))) f M (k + 1) := by
  refine ⟨h.bel.setCell (Nat.le_refl _) _, (h.row.set x _).congr (fun v _ => ?_)⟩
  rw [hist_succ, hx]
  by_cases e : v = x
  · subst e; simp
  · rw [if_neg e, if_neg (by omega)]; simp

theorem hist_good {f : Nat → Int} {n M : Nat} (hn : n ≤ 65536) (h0 : ∀ i, i < n → 0 ≤ f i) (hM : ∀ i, i < n → f i ≤ M) : Good (hist f n) (M + 1) :=
  ⟨fun v _ => (hist_bounds f n v).1, by rw [hist_total h0 hM]; omega⟩

/-- The sample at place R of the sorted list is the value at which the histogram's sums pass R. -/
theorem sample_at {f s : Nat → Int} {n R k : Nat} (h0 : ∀ i, i < n → 0 ≤ f i) (hS : SortedOf f n s) (hR1 : 1 ≤ R) (hR2 : R ≤ n) (l1 : sumN (hist f n) k < R) (l2 : (R : Int) ≤ sumN (hist f n) (k + 1)) : s (R - 1) = k := by
  rw [hist_sum h0] at l1 l2
  have e : ((k + 1 : Nat) : Int) - 1 = k := by omega
  rw [e] at l2
  exact sorted_at hS.ord hR1 hR2 (by rw [hS.cnt]; exact l1) (by rw [hS.cnt]; exact l2)

set_option maxRecDepth 100000 in
set_option maxHeartbeats 1600000 in
theorem samples_early (a : Option Addr) (n c : Nat) (q : Int) (w : World) (h : (65536 : Int) < n ∨ q < 1 ∨ 100 < q) :
    Calls Try.prog 5 #[.slice a n c, .int .i64 q] w fun e w' => e = .returned (.bool true) ∧ Below w.heap.size w w' := by
  by_cases h20 : (1048576 : Int) < n
  · go_enter Try.func5, Try.ntmps5
    go_wp2
    go_ret
    exact ⟨rfl, Below.refl _ _⟩
  by_cases h16 : (65536 : Int) < n
  · go_enter Try.func5, Try.ntmps5
    go_wp2
    go_ret
    exact ⟨rfl, Below.refl _ _⟩
  by_cases hq1 : q < 1
  · go_enter Try.func5, Try.ntmps5
    go_wp2
    go_ret
    exact ⟨rfl, Below.refl _ _⟩
  have hd1 : decide (q < 1) = false := decide_eq_false hq1
  by_cases hq2 : 100 < q
  · go_enter Try.func5, Try.ntmps5
    go_wp2
    go_ret
    exact ⟨rfl, Below.refl _ _⟩
  omega

set_option maxRecDepth 100000 in
set_option maxHeartbeats 1600000 in
theorem samples_walk (a : Option Addr) (n c : Nat) (q : Int) (f : Nat → Int) (w : World) (ha : a = none → n = 0 ∧ c = 0) (hR : Reads .u16 w a n f) (hf : ∀ i, i < n → 0 ≤ f i ∧ f i ≤ 65535) :
    Calls Try.prog 5 #[.slice a n c, .int .i64 q] w fun e w' => e = .returned (.bool true) ∧ Below w.heap.size w w' := by
  by_cases hearly : (65536 : Int) < n ∨ q < 1 ∨ 100 < q
  · exact samples_early a n c q w hearly
  have h16 : ¬ (65536 : Int) < n := by omega
  have h20 : ¬ (1048576 : Int) < n := by omega
  have hq1 : 1 ≤ q := by omega
  have hq2 : q ≤ 100 := by omega
  have hd1 : decide (q < 1) = false := decide_eq_false (by omega)
  have hd2 : decide (100 < q) = false := decide_eq_false (by omega)
  clear hearly
  have hcl := cloneU16s_any a n c f w (by omega) ha hR
  clear ha hR
  go_enter Try.func5, Try.ntmps5
  go_wp2_with (first | go_at_call 15; go_in)
  refine hcl.mono ?_
  clear hcl
  rintro e w1 ⟨a', rfl, hF⟩
  by_cases hn0 : n = 0
  · subst hn0
    have hcnt := count_any none 0 0 f w1 (by omega) (reads_nil _ _ _ _)
    rw [sumN_zero, wrap_zero] at hcnt
    have hp := pct_any none 0 0 q f w1 (by omega) (reads_nil _ _ _ _) ⟨fun i hi => absurd hi (Nat.not_lt_zero _), by rw [sumN_zero]; decide⟩ hq1 hq2
    go_wp2_with fail
    refine hcnt.mono ?_
    rintro e w2 ⟨rfl, rfl⟩
    go_wp2_with fail
    refine hp.mono ?_
    rintro e w2 ⟨rfl, v, rfl, hP⟩
    obtain rfl : v = -1 := hP.empty rfl
    go_wp2
    go_ret
    exact ⟨rfl, hF.bel⟩
  have hnl : (0 : Int) < n := by omega
  have hnz : ((n : Int) == 0) = false := by simpa using hn0
  have hbel := hF.bel
  have hrd := hF.reads
  obtain ⟨b, off, rfl, hc⟩ := hF.reads (by omega)
  clear hF
  go_wp2
  go_loop [7, 8] (fun t i => ∃ k M : Nat, k ≤ n ∧ i = .int .i64 k ∧ t = .int .i64 M ∧ M ≤ 65535 ∧ ∀ j, j < k → f j ≤ M) (fun _ i => n - (intOf i).toNat)
  case atStart => exact ⟨0, 0, Nat.zero_le _, rfl, rfl, by omega, fun j hj => absurd hj (Nat.not_lt_zero _)⟩
  case round =>
    obtain ⟨k, M, hk, rfl, rfl, hM, hmx⟩ := hrel
    by_cases hlt : k < n
    · obtain ⟨x, hx⟩ : ∃ x : Nat, f k = x := ⟨(f k).toNat, by have := hf k hlt; omega⟩
      have hx2 : x ≤ 65535 := by have := hf k hlt; omega
      have hck := hc k hlt
      rw [hx] at hck
      have HX : Hid (f k = x) := hx
      have HMX : Hid (∀ j, j < k → f j ≤ M) := hmx
      clear hx hmx hc hf hrd
      by_cases hgt : (M : Int) < x
      · go_wp2
        go_round
        case rel => exact ⟨k + 1, x, by omega, by go_num, rfl, hx2, fun j hj => by
          by_cases e : j = k
          · subst e; rw [HX.out]; exact Int.le_refl _
          · have := HMX.out j (by omega); omega⟩
        case measure => simp [intOf]; omega
      · go_wp2
        go_round
        case rel => exact ⟨k + 1, M, by omega, by go_num, rfl, hM, fun j hj => by
          by_cases e : j = k
          · subst e; rw [HX.out]; omega
          · exact HMX.out j (by omega)⟩
        case measure => simp [intOf]; omega
    · obtain rfl : n = k := by omega
      have hmk := run_make_row' (P := Try.prog) 22 3 (.int .i64 0) 8 Try.underlying22 Try.info3 rfl .i64 .i64 (M + 1) (by omega) (by omega)
      have ec : ((M + 1 : Nat) : Int) = (M : Int) + 1 := by omega
      rw [ec] at hmk
      have HMX : Hid (∀ j, j < n → f j ≤ M) := hmx
      clear ec hmx
      go_wp2
      clear hmk
      go_loopw [9] (fun i wr => ∃ k : Nat, k ≤ n ∧ i = .int .i64 k ∧ Hi w1 wr f M k) (fun i _ => n - (intOf i).toNat)
      case atStart => exact ⟨0, Nat.zero_le _, rfl, hi_start w1 f M⟩
      case round =>
        obtain ⟨k, hk, rfl, hH⟩ := hrel
        by_cases hlt : k < n
        · obtain ⟨x, hx⟩ : ∃ x : Nat, f k = x := ⟨(f k).toNat, by have := hf k hlt; omega⟩
          have hxM : x ≤ M := by have := HMX.out k hlt; omega
          have hck : wr.cell? ⟨b, off + k, none⟩ = some (.int .u16 (f k)) := (hH.bel.cell (p := ⟨b, off + k, none⟩) (World.block_lt_of_cell? _ _ (hc k hlt))).trans (hc k hlt)
          rw [hx] at hck
          have hold : wr.cell? ⟨w1.heap.size, x, none⟩ = some (.int .i64 (hist f k x)) := hH.row.cell (by omega)
          have hfz : wr.frozen? ⟨w1.heap.size, x, none⟩ = false := hH.row.frozen x
          have hb1 := (hist_bounds f k x).1
          have hb2 := (hist_bounds f k x).2
          have hS := hi_step hH hx
          clear hx hc hf hH hrd
          go_wp2
          go_roundw
          case rel => exact ⟨k + 1, by omega, by go_num, hS⟩
          case measure => simp [intOf]; omega
        · obtain rfl : n = k := by omega
          have h0 : ∀ i, i < n → 0 ≤ f i := fun i hi => (hf i hi).1
          have hG := hist_good (by omega) h0 HMX.out
          have hTot := hist_total h0 HMX.out
          have hrow := reads_row hH.row
          have hcnt := count_any (some ⟨w1.heap.size, 0, none⟩) (M + 1) (M + 1) (hist f n) wr (by omega) hrow
          have ew : wrap64 (sumN (hist f n) (M + 1)) = n := by rw [hTot]; exact IntWalk.wrap64_in _ ⟨by omega, by omega⟩
          rw [ew] at hcnt
          have hrd2 := hrd.below hH.bel
          have hso := sorted_any (some ⟨b, off, none⟩) n n f wr (by omega) (by omega) hrd2
          have hqn := mul_bounds (q := q) (T := (n : Int)) hq1 hq2 (by omega)
          obtain ⟨hqa, hqb⟩ := hqn
          have hrb := rank_bounds (q := q) (T := (n : Int)) hq1 hq2 (by omega)
          obtain ⟨R, hRk⟩ : ∃ R : Nat, (R : Int) = (q * n + 99) / 100 := ⟨((q * n + 99) / 100).toNat, by omega⟩
          have HR : Hid ((R : Int) = (q * n + 99) / 100) := hRk
          have hR1 : 1 ≤ R := by omega
          have hR2 : R ≤ n := by omega
          clear hf hc hrd ew hRk hrb
          go_wp2_with fail
          refine hcnt.mono ?_
          clear hcnt
          rintro e w2 ⟨rfl, rfl⟩
          go_wp2_with fail
          refine hso.mono ?_
          clear hso
          rintro e w3 ⟨a3, s, rfl, hF3, hSo⟩
          go_upto_if 88 with fail
          go_cut [12] (fun s12 wx => s12 = .int .i64 (R : Int) ∧ w3 = wx)
          case first =>
            by_cases hc1 : q * (n : Int) / 100 * 100 < q * (n : Int)
            · go_wp2_with fail
              go_meet
              case rel => exact ⟨int_eq (by have := HR.out; omega), rfl⟩
            · go_wp2_with fail
              go_meet
              case rel => exact ⟨int_eq (by have := HR.out; omega), rfl⟩
          case rest =>
            obtain ⟨rfl, rfl⟩ := hcut
            obtain ⟨k, hkM, l1, l2⟩ := first_reach (hist f n) R (by omega) (M + 1) (by rw [hTot]; omega)
            have hsk := sample_at h0 hSo hR1 hR2 l1 l2
            obtain ⟨b3, off3, rfl, hc3⟩ := hF3.reads (by omega)
            have hcell3 := hc3 (R - 1) (by omega)
            rw [hsk] at hcell3
            have er : (q * sumN (hist f n) (M + 1) + 99) / 100 = (R : Int) := by rw [hTot]; exact HR.out.symm
            have hp := fun m => pct_at (some ⟨w1.heap.size, 0, none⟩) (M + 1) (M + 1) q (hist f n) (w3.drewN m) (by omega) ((hrow.below hF3.bel).drawn m) hG hq1 hq2 (by rw [hTot]; omega) k hkM (by rw [er]; exact l1) (by rw [er]; exact l2)
            have hfin : Below w.heap.size w w3 := hbel.trans ((hH.bel.trans (hF3.bel.mono hH.bel.size)).mono hbel.size)
            have hRn : (R : Int) - 1 < (n : Int) := by omega
            have hRp : 0 ≤ (R : Int) - 1 := by omega
            have hk16 : k ≤ 65535 := by omega
            clear hsk hc3 er hH hF3 hSo hG hTot hrow hrd2 l1 l2 h0
            go_wp2_with fail
            go_quiet ((go_at_call 13; exact Calls.quiet_of_same (hp _)))
            go_wp2
            go_ret
            exact ⟨rfl, below_drewN hfin _⟩
end Go.Proofs.Qxb6603164a

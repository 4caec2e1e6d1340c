/-
  THE WALK OF FnSlopeLeastSquaresPairwise (7).
-/
import Derived.Test.Qxb6603164aWalkH
import Derived.Test.Qxb6603164aWalkI
namespace Go.Proofs.Qxb6603164a
open Go.RowKit Plain

theorem Reads.tapes {k : IntKind} {w : World} {a : Option Addr} {n : Nat} {f : Nat → Int} (h : Reads k w a n f) (m : Nat) : Reads k (w.drewN m) a n f := by
  intro hn
  obtain ⟨b, off, e, hc⟩ := h hn
  exact ⟨b, off, e, fun i hi => by simpa using hc i hi⟩

/-- The bounds of the two pairwise sums. -/
structure Sums (x y : Nat → Int) (n : Nat) : Prop where
  a0 : -2305843009213693952 ≤ triP x y n n
  a1 : triP x y n n ≤ 2305843009213693952
  b1 : 1 ≤ triP x x n n
  b2 : triP x x n n ≤ 1152921504606846976

theorem sums_of {x y : Nat → Int} {n ny : Nat} (h : DomOk x y n ny) : Sums x y n := by
  obtain ⟨bx, by', hD⟩ := h.dom
  obtain ⟨j, hj, hne⟩ := h.two
  have h1 := tri_abs hD.xs hD.ys hD.xy
  exact ⟨by omega, by omega, tri_pos hj hne, tri_sq hD.xs hD.xx⟩

theorem row_next {x y : Nat → Int} {i j : Nat} (h : i < j) : rowP x y i (j + 1 - (i + 1)) = rowP x y i (j - (i + 1)) + (x j - x i) * (y j - y i) := row_more x y j i h

/-- One pair more. -/
theorem pair_step (T r p q : Int) : wrap64 (wrap64 (T + r) + wrap64 (wrap64 p * wrap64 q)) = wrap64 (T + (r + p * q)) := by
  rw [wrap_mul, wrap_add_left, wrap_add_right, Int.add_assoc]

set_option maxRecDepth 100000 in
set_option maxHeartbeats 1600000 in
theorem pairwise_early (ax ay : Option Addr) (n ny cx cy : Nat) (w : World) (hm1 : n ≤ 9223372036854775807) (hm2 : ny ≤ 9223372036854775807) (h : (4096 : Int) < n ∨ (4096 : Int) < ny) :
    Calls Try.prog 7 #[.slice ax n cx, .slice ay ny cy] w fun e w' => e = .returned (.bool true) ∧ Below w.heap.size w w' := by
  by_cases h1 : (1048576 : Int) < n
  · go_enter Try.func7, Try.ntmps7
    go_wp2
    go_ret
    exact ⟨rfl, Below.refl _ _⟩
  by_cases h2 : (1048576 : Int) < ny
  · go_enter Try.func7, Try.ntmps7
    go_wp2
    go_ret
    exact ⟨rfl, Below.refl _ _⟩
  by_cases h3 : (1048576 : Int) < (n : Int) + ny
  · go_enter Try.func7, Try.ntmps7
    go_wp2
    go_ret
    exact ⟨rfl, Below.refl _ _⟩
  by_cases h4 : (4096 : Int) < n
  · go_enter Try.func7, Try.ntmps7
    go_wp2
    go_ret
    exact ⟨rfl, Below.refl _ _⟩
  have hd4 : decide ((4096 : Int) < n) = false := decide_eq_false h4
  by_cases h5 : (4096 : Int) < ny
  · go_enter Try.func7, Try.ntmps7
    go_wp2
    go_ret
    exact ⟨rfl, Below.refl _ _⟩
  omega

set_option maxRecDepth 100000 in
set_option maxHeartbeats 1600000 in
theorem pairwise_walk (ax ay : Option Addr) (n ny cx cy : Nat) (x y : Nat → Int) (w : World) (hm1 : n ≤ 9223372036854775807) (hm2 : ny ≤ 9223372036854775807) (hax : ax = none → n = 0 ∧ cx = 0) (hay : ay = none → ny = 0 ∧ cy = 0)
    (hX : Reads .i64 w ax n x) (hY : Reads .i64 w ay ny y) :
    Calls Try.prog 7 #[.slice ax n cx, .slice ay ny cy] w fun e w' => e = .returned (.bool true) ∧ Below w.heap.size w w' := by
  by_cases hearly : (4096 : Int) < n ∨ (4096 : Int) < ny
  · exact pairwise_early ax ay n ny cx cy w hm1 hm2 hearly
  have h4 : n ≤ 4096 := by omega
  have h5 : ny ≤ 4096 := by omega
  have hd4 : decide ((4096 : Int) < n) = false := decide_eq_false (by omega)
  clear hearly hm1 hm2
  have hdom := dom_any ax ay n ny cx cy x y w hX hY
  go_enter Try.func7, Try.ntmps7
  go_wp2_with (first | go_at_call 20; go_in)
  refine hdom.mono ?_
  clear hdom
  rintro e w' ⟨⟨m, rfl⟩, hs⟩
  rcases hs with rfl | ⟨rfl, hOk⟩
  · go_wp2
    go_ret
    exact ⟨rfl, below_drewN (Below.refl _ _) _⟩
  have hlen := hOk.len
  subst hlen
  have hn2 := hOk.n2
  have hS := sums_of hOk
  clear hOk h4
  have hcx := cloneInts_any ax ny cx x (w.drewN m) (by omega) hax (hX.tapes m)
  clear hX hax
  go_wp2_with fail
  refine hcx.mono ?_
  clear hcx
  rintro e w1 ⟨a1, rfl, hF1⟩
  have hcy := cloneInt64s_any ay ny cy y w1 (by omega) hay ((hY.tapes m).below hF1.bel)
  clear hY hay
  go_wp2_with fail
  refine hcy.mono ?_
  clear hcy
  rintro e w2 ⟨a2, rfl, hF2⟩
  have hnil : a2 = none → ny = 0 ∧ ny = 0 := fun h => ⟨hF2.nil h, hF2.nil h⟩
  have hct := toThousandths_any a2 ny ny y w2 (by omega) hnil hF2.reads
  clear hnil
  go_wp2_with fail
  refine hct.mono ?_
  clear hct
  rintro e w3 ⟨a3, rfl, hF3⟩
  have hRx := (hF1.reads.below hF2.bel).below hF3.bel
  have hRy := hF2.reads.below hF3.bel
  have hRt := hF3.reads
  have hbel : Below w.heap.size w w3 := (below_drewN (Below.refl _ _) m).trans (hF1.bel.trans ((hF2.bel.trans (hF3.bel.mono hF2.bel.size)).mono hF1.bel.size))
  have hsl := slope_any a1 a3 ny ny ny x y w3 h5 hRx hRt hS.a0 hS.a1 hS.b1 hS.b2
  clear hF1 hF2 hF3 hRt
  go_wp2_with fail
  refine hsl.mono ?_
  clear hsl
  rintro e w4 ⟨rfl, m4, rfl⟩
  obtain ⟨b, off, rfl, hc⟩ := hRx (by omega)
  obtain ⟨b', off', rfl, hc'⟩ := hRy (by omega)
  clear hRx hRy
  have hro := fun q => rounds_any (triP x y ny ny) (triP x x ny ny) (w3.drewN q) hS.a0 hS.a1 hS.b1 hS.b2
  have HA : Hid (wrap64 (triP x y ny ny) = triP x y ny ny) := IntWalk.wrap64_in _ ⟨by have := hS.a0; omega, by have := hS.a1; omega⟩
  have HB : Hid (wrap64 (triP x x ny ny) = triP x x ny ny) := IntWalk.wrap64_in _ ⟨by have := hS.b1; omega, by have := hS.b2; omega⟩
  clear hS
  go_wp2_with fail
  go_loopw [6, 7, 8] (fun s6 s7 i wr => ∃ k q : Nat, k ≤ ny ∧ i = .int .i64 k ∧ s6 = .int .i64 (wrap64 (triP x y ny k)) ∧ s7 = .int .i64 (wrap64 (triP x x ny k)) ∧ wr = w3.drewN q) (fun _ _ i _ => ny - (intOf i).toNat)
  case atStart => exact ⟨0, m4, Nat.zero_le _, rfl, val_eq wrap_zero.symm, val_eq wrap_zero.symm, rfl⟩
  case round =>
    obtain ⟨i, q, hi, rfl, rfl, rfl, rfl⟩ := hrel
    by_cases hlt : i < ny
    · have hci := hc i hlt
      have hci' := hc' i hlt
      have hin : (i : Int) < (ny : Int) := by omega
      clear hro
      go_wp2_with fail
      go_loopw [6, 7, 9] (fun s6 s7 jv wr => ∃ j q : Nat, i < j ∧ j ≤ ny ∧ jv = .int .i64 j ∧ s6 = .int .i64 (wrap64 (triP x y ny i + rowP x y i (j - (i + 1)))) ∧ s7 = .int .i64 (wrap64 (triP x x ny i + rowP x x i (j - (i + 1)))) ∧ wr = w3.drewN q) (fun _ _ jv _ => ny - (intOf jv).toNat)
      case atStart => exact ⟨i + 1, q, by omega, by omega, by go_num, val_eq (by rw [Nat.sub_self, rowP_zero, Int.add_zero]), val_eq (by rw [Nat.sub_self, rowP_zero, Int.add_zero]), rfl⟩
      case round =>
        obtain ⟨j, q, hij, hj, rfl, rfl, rfl, rfl⟩ := hrel
        by_cases hjn : j < ny
        · have hcj := hc j hjn
          have hcj' := hc' j hjn
          have hjl : (j : Int) < (ny : Int) := by omega
          clear hc hc'
          go_wp2_with fail
          go_quiet (fail)
          go_wp2_with fail
          go_quiet (fail)
          go_wp2_with fail
          go_roundw
          case rel => exact ⟨j + 1, _, by omega, by omega, by go_num, val_eq (by rw [row_next hij]; exact pair_step _ _ _ _), val_eq (by rw [row_next hij]; exact pair_step _ _ _ _), rfl⟩
          case measure => simp [intOf]; omega
        · obtain rfl : ny = j := by omega
          clear hc hc'
          go_wp2_with fail
          go_roundw
          case rel => exact ⟨i + 1, _, by omega, by go_num, val_eq (by rw [triP_succ]), val_eq (by rw [triP_succ]), rfl⟩
          case measure => simp [intOf]; omega
    · obtain rfl : ny = i := by omega
      clear hc hc'
      rw [HA.out, HB.out]
      go_wp2_with fail
      refine (hro _).mono ?_
      clear hro
      rintro e w5 ⟨rfl, rfl⟩
      go_wp2_with fail
      go_ret
      exact ⟨rfl, below_drewN hbel _⟩
end Go.Proofs.Qxb6603164a

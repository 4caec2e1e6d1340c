/-
  THE WALK OF slopeDomain (21), at maxN = 4096.
-/
import Derived.Test.Qxb6603164aWalkA
import Derived.Test.Qxb6603164aLeast
import Derived.WalkSmall
import Derived.Deep.QuietTactic
import Derived.BigQuiet
import Derived.Deep.Light
import Derived.Deep.DeepCutAuto
namespace Go.Proofs.Qxb6603164a
open Go.RowKit Plain

/-- What 'slopeDomain' says yes to. -/
structure DomOk (x y : Nat → Int) (n ny : Nat) : Prop where
  len : ny = n
  n2 : 2 ≤ n
  n4 : n ≤ 4096
  dom : ∃ bx by', Dom x y n bx by'
  two : ∃ j, j < n ∧ x j ≠ x 0

def DomSays (x y : Nat → Int) (n ny : Nat) (e : Ending) : Prop := e = .returned (.bool false) ∨ (e = .returned (.bool true) ∧ DomOk x y n ny)

/-- What the loop has gathered of the first k. -/
structure Gath (x y : Nat → Int) (k : Nat) (X Y : Int) (D : Bool) : Prop where
  x0 : 0 ≤ X
  x1 : X ≤ 4611686018427387904
  y0 : 0 ≤ Y
  y1 : Y ≤ 4611686018427387904
  xs : ∀ i, i < k → -X ≤ x i ∧ x i ≤ X
  ys : ∀ i, i < k → -Y ≤ y i ∧ y i ≤ Y
  two : D = true → ∃ j, j < k ∧ x j ≠ x 0

theorem gath_start (x y : Nat → Int) : Gath x y 0 0 0 false :=
  ⟨by omega, by omega, by omega, by omega, fun i hi => absurd hi (Nat.not_lt_zero _), fun i hi => absurd hi (Nat.not_lt_zero _), fun h => by cases h⟩

theorem gath_step {x y : Nat → Int} {k : Nat} {X Y U V : Int} {D : Bool} (h : Gath x y k X Y D) (hU : U = max (x k) (-(x k))) (hV : V = max (y k) (-(y k))) (hU1 : U ≤ 4611686018427387904) (hV1 : V ≤ 4611686018427387904) :
    Gath x y (k + 1) (max X U) (max Y V) (D || (x k != x 0)) := by
  have x0 := h.x0; have x1 := h.x1; have y0 := h.y0; have y1 := h.y1
  refine ⟨by omega, by omega, by omega, by omega, fun i hi => ?_, fun i hi => ?_, fun hd => ?_⟩
  · by_cases e : i = k
    · subst e; omega
    · have := h.xs i (by omega); omega
  · by_cases e : i = k
    · subst e; omega
    · have := h.ys i (by omega); omega
  · cases D with
    | true =>
      obtain ⟨j, h1, h2⟩ := h.two rfl
      exact ⟨j, by omega, h2⟩
    | false => exact ⟨k, by omega, by simpa using hd⟩

theorem gath_pos {x y : Nat → Int} {k : Nat} {X Y : Int} (h : Gath x y k X Y true) : 1 ≤ X := by
  obtain ⟨j, h1, h2⟩ := h.two rfl
  have a1 := h.xs j h1
  have a2 := h.xs 0 (by omega)
  have := h.x0
  omega

theorem le_quo {a b c : Int} (hc : 0 < c) (h : a ≤ b / c) : a * c ≤ b := (Int.le_ediv_iff_mul_le hc).1 h

theorem gath_dom {x y : Nat → Int} {n : Nat} {X Y : Int} (h : Gath x y n X Y true) (h1 : X ≤ 1152921504606846976 / ((n : Int) * n) / X) (h2 : Y ≤ 1152921504606846976 / ((n : Int) * n) / X) (hn : 2 ≤ n) (hn4 : n ≤ 4096) : DomOk x y n n := by
  have hX := gath_pos h
  have hnn : 0 < (n : Int) * n := Int.mul_pos (by omega) (by omega)
  have a1 := le_quo hnn (le_quo (by omega) h1)
  have a2 := le_quo hnn (le_quo (by omega) h2)
  exact ⟨rfl, hn, hn4, ⟨X, Y, h.xs, h.ys, by rw [Int.mul_comm]; exact a1, by rw [Int.mul_comm X Y, Int.mul_comm]; exact a2⟩, h.two rfl⟩

/-- It says no at once. -/
theorem dom_early (ax ay : Option Addr) (n ny cx cy : Nat) (x y : Nat → Int) (w : World) (h : (4096 : Int) < n ∨ ((ny : Int) != (n : Int)) = true ∨ (n : Int) < 2) :
    Calls Try.prog 21 #[.slice ax n cx, .slice ay ny cy, .int .i64 4096] w fun e w' => (∃ m, w' = w.drewN m) ∧ DomSays x y n ny e := by
  by_cases h1 : (4096 : Int) < n
  · go_enter Try.func21, Try.ntmps21
    go_wp2
    go_ret
    exact ⟨⟨0, rfl⟩, .inl rfl⟩
  have hd1 : decide ((4096 : Int) < n) = false := decide_eq_false h1
  by_cases h2 : ((ny : Int) != (n : Int)) = true
  · go_enter Try.func21, Try.ntmps21
    go_wp2
    go_ret
    exact ⟨⟨0, rfl⟩, .inl rfl⟩
  have hd2 : ((ny : Int) != (n : Int)) = false := by simpa using h2
  by_cases h3 : (n : Int) < 2
  · go_enter Try.func21, Try.ntmps21
    go_wp2
    go_ret
    exact ⟨⟨0, rfl⟩, .inl rfl⟩
  exfalso
  rcases h with h | h | h
  · exact h1 h
  · exact h2 h
  · exact h3 h

theorem num_eq {k : IntKind} {a b : Int} (h : a = b) : Value.int k a = .int k b := by rw [h]

set_option maxRecDepth 100000 in
set_option maxHeartbeats 1600000 in
theorem dom_walk (ax ay : Option Addr) (n cx cy : Nat) (x y : Nat → Int) (w : World) (hn2 : 2 ≤ n) (hn4 : n ≤ 4096) (hX : Reads .i64 w ax n x) (hY : Reads .i64 w ay n y) :
    Calls Try.prog 21 #[.slice ax n cx, .slice ay n cy, .int .i64 4096] w fun e w' => (∃ m, w' = w.drewN m) ∧ DomSays x y n n e := by
  have hd1 : decide ((4096 : Int) < n) = false := decide_eq_false (by omega)
  obtain ⟨b, off, rfl, hc⟩ := hX (by omega)
  obtain ⟨b', off', rfl, hc'⟩ := hY (by omega)
  have hc0 : w.cell? ⟨b, off, none⟩ = some (.int .i64 (x 0)) := by simpa using hc 0 (by omega)
  clear hX hY
  go_enter Try.func21, Try.ntmps21
  go_wp2
  go_loopw [8, 9, 10, 11] (fun s8 s9 s10 i wr => ∃ (k m : Nat) (X Y : Int) (D : Bool), k ≤ n ∧ i = .int .i64 k ∧ s8 = .int .i64 X ∧ s9 = .int .i64 Y ∧ s10 = .bool D ∧ wr = w.drewN m ∧ Gath x y k X Y D) (fun _ _ _ i _ => n - (intOf i).toNat)
  case atStart => exact ⟨0, 0, 0, 0, false, Nat.zero_le _, rfl, rfl, rfl, rfl, rfl, gath_start x y⟩
  case round =>
    obtain ⟨k, m, X, Y, D, hk, rfl, rfl, rfl, rfl, rfl, hG⟩ := hrel
    have x0 := hG.x0
    have x1 := hG.x1
    have y0 := hG.y0
    have y1 := hG.y1
    by_cases hlt : k < n
    · have hcx := hc k hlt
      have hcy := hc' k hlt
      have hkn : (k : Int) < (n : Int) := by omega
      have hnp : (0 : Int) < (n : Int) := by omega
      clear hc hc'
      by_cases e1 : x k < -4611686018427387904
      · go_wp2
        go_ret
        exact ⟨⟨m, rfl⟩, .inl rfl⟩
      have d1 : decide (x k < -4611686018427387904) = false := decide_eq_false e1
      by_cases e2 : 4611686018427387904 < x k
      · go_wp2
        go_ret
        exact ⟨⟨m, rfl⟩, .inl rfl⟩
      have d2 : decide (4611686018427387904 < x k) = false := decide_eq_false e2
      by_cases e3 : y k < -4611686018427387904
      · go_wp2
        go_ret
        exact ⟨⟨m, rfl⟩, .inl rfl⟩
      have d3 : decide (y k < -4611686018427387904) = false := decide_eq_false e3
      by_cases e4 : 4611686018427387904 < y k
      · go_wp2
        go_ret
        exact ⟨⟨m, rfl⟩, .inl rfl⟩
      have d4 : decide (4611686018427387904 < y k) = false := decide_eq_false e4
      obtain ⟨U, hU⟩ : ∃ U, U = max (x k) (-(x k)) := ⟨_, rfl⟩
      obtain ⟨V, hV⟩ : ∃ V, V = max (y k) (-(y k)) := ⟨_, rfl⟩
      have hN := gath_step hG hU hV (by omega) (by omega)
      have hU0 : 0 ≤ U := by omega
      have hU1 : U ≤ 4611686018427387904 := by omega
      have hV0 : 0 ≤ V := by omega
      have hV1 : V ≤ 4611686018427387904 := by omega
      have HU : Hid (U = max (x k) (-(x k))) := hU
      have HV : Hid (V = max (y k) (-(y k))) := hV
      clear hU hV hG
      go_upto_if 62 with fail
      go_cut [12] (fun s12 wx => s12 = .int .i64 U ∧ w.drewN m = wx)
      case first =>
        by_cases hs : x k < 0
        · go_wp2_with fail
          go_meet
          case rel => exact ⟨num_eq (by have := HU.out; omega), rfl⟩
        · go_wp2_with fail
          go_meet
          case rel => exact ⟨num_eq (by have := HU.out; omega), rfl⟩
      case rest =>
        obtain ⟨rfl, rfl⟩ := hcut
        go_upto_if 66 with fail
        go_cut [13] (fun s13 wx => s13 = .int .i64 V ∧ w.drewN m = wx)
        case first =>
          by_cases hs : y k < 0
          · go_wp2_with fail
            go_meet
            case rel => exact ⟨num_eq (by have := HV.out; omega), rfl⟩
          · go_wp2_with fail
            go_meet
            case rel => exact ⟨num_eq (by have := HV.out; omega), rfl⟩
        case rest =>
          obtain ⟨rfl, rfl⟩ := hcut
          go_upto_if 71 with fail
          go_cut [8] (fun s8 wx => s8 = .int .i64 (max X U) ∧ w.drewN m = wx)
          case first =>
            by_cases hs : X < U
            · go_wp2_with fail
              go_meet
              case rel => exact ⟨num_eq (by omega), rfl⟩
            · go_wp2_with fail
              go_meet
              case rel => exact ⟨num_eq (by omega), rfl⟩
          case rest =>
            obtain ⟨rfl, rfl⟩ := hcut
            go_upto_if 75 with fail
            go_cut [9] (fun s9 wx => s9 = .int .i64 (max Y V) ∧ w.drewN m = wx)
            case first =>
              by_cases hs : Y < V
              · go_wp2_with fail
                go_meet
                case rel => exact ⟨num_eq (by omega), rfl⟩
              · go_wp2_with fail
                go_meet
                case rel => exact ⟨num_eq (by omega), rfl⟩
            case rest =>
              obtain ⟨rfl, rfl⟩ := hcut
              go_wp2_with fail
              go_quiet (fail)
              by_cases hz : (x k != x 0) = true
              · rw [hz, Bool.or_true] at hN
                go_wp2
                go_roundw
                case rel => exact ⟨k + 1, _, _, _, true, by omega, by go_num, rfl, rfl, rfl, rfl, hN⟩
                case measure => simp [intOf]; omega
              · have hz2 : (x k != x 0) = false := by simpa using hz
                rw [hz2, Bool.or_false] at hN
                clear hz
                go_wp2
                go_roundw
                case rel => exact ⟨k + 1, _, _, _, D, by omega, by go_num, rfl, rfl, rfl, rfl, hN⟩
                case measure => simp [intOf]; omega
    · obtain rfl : n = k := by omega
      clear hc hc' hc0
      cases D with
      | false =>
        go_wp2
        go_ret
        exact ⟨⟨m, rfl⟩, .inl rfl⟩
      | true =>
        have hp := gath_pos hG
        have hnn1 : 1 ≤ (n : Int) * n := by have := Int.mul_pos (show (0 : Int) < n by omega) (show (0 : Int) < n by omega); omega
        have hnn2 : (n : Int) * n ≤ 16777216 := (mul_abs (a := (n : Int)) (b := (n : Int)) (A := 4096) (B := 4096) (by omega) (by omega) (by omega) (by omega)).2
        have p0 : 0 ≤ 1152921504606846976 / ((n : Int) * n) := Int.ediv_nonneg (by omega) (by omega)
        have p1 : 1152921504606846976 / ((n : Int) * n) ≤ 1152921504606846976 := Int.ediv_le_self _ (by omega)
        have q0 : 0 ≤ 1152921504606846976 / ((n : Int) * n) / X := Int.ediv_nonneg p0 (by omega)
        have q1 : 1152921504606846976 / ((n : Int) * n) / X ≤ 1152921504606846976 / ((n : Int) * n) := Int.ediv_le_self _ p0
        by_cases c1 : 1152921504606846976 / ((n : Int) * n) / X < X
        · go_wp2
          go_ret
          exact ⟨⟨m, rfl⟩, .inl rfl⟩
        have d1 : decide (1152921504606846976 / ((n : Int) * n) / X < X) = false := decide_eq_false c1
        by_cases c2 : 1152921504606846976 / ((n : Int) * n) / X < Y
        · go_wp2
          go_ret
          exact ⟨⟨m, rfl⟩, .inl rfl⟩
        have hOk := gath_dom hG (by omega) (by omega) hn2 hn4
        clear hG
        go_wp2
        go_ret
        exact ⟨⟨m, rfl⟩, .inr ⟨rfl, hOk⟩⟩

/-- 'slopeDomain' at maxN = 4096. -/
theorem dom_any (ax ay : Option Addr) (n ny cx cy : Nat) (x y : Nat → Int) (w : World) (hX : Reads .i64 w ax n x) (hY : Reads .i64 w ay ny y) :
    Calls Try.prog 21 #[.slice ax n cx, .slice ay ny cy, .int .i64 4096] w fun e w' => (∃ m, w' = w.drewN m) ∧ DomSays x y n ny e := by
  by_cases h : (4096 : Int) < n ∨ ((ny : Int) != (n : Int)) = true ∨ (n : Int) < 2
  · exact dom_early ax ay n ny cx cy x y w h
  · have e : ny = n := by
      have h2 : ¬ ((ny : Int) != (n : Int)) = true := fun h' => h (.inr (.inl h'))
      simp at h2
      omega
    subst e
    exact dom_walk ax ay ny cx cy x y w (by omega) (by omega) hX hY
end Go.Proofs.Qxb6603164a

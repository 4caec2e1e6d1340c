/-
  THE WALK OF sortedCopy (18): a bottom-up merge sort between two rows of the call's own.
-/
import Derived.Test.Qxb6603164aWalkA
import Derived.Test.Qxb6603164aMerge
import Derived.WalkSmall
import Derived.Deep.QuietTactic
import Derived.BigQuiet
import Derived.Deep.Light
import Derived.Deep.DeepCutAuto
namespace Go.Proofs.Qxb6603164a
open Go.RowKit Plain

/-- The two rows, src (block bs) and dst (block bd), of the call's own; nothing that was there has turned. -/
structure Two (w wr : World) (bs bd n : Nat) (s d : Nat → Int) : Prop where
  bel : Below w.heap.size w wr
  bs1 : w.heap.size ≤ bs
  bd1 : w.heap.size ≤ bd
  ne : bs ≠ bd
  rs : wr.rowIs bs 33 n (fun i => .int .u16 (s i))
  rd : wr.rowIs bd 33 n (fun i => .int .u16 (d i))

theorem two_start (w : World) (n : Nat) :
    Two w ((w.alloc (.cells (madeCells #[.int .u16 0] n) 33)).alloc (.cells (madeCells #[.int .u16 0] n) 33)) w.heap.size (w.heap.size + 1) n (fun _ => 0) (fun _ => 0) := by
  have h1 := World.rowIs_made w (.int .u16 0) n 33
  have h2 := World.rowIs_made (w.alloc (.cells (madeCells #[.int .u16 0] n) 33)) (.int .u16 0) n 33
  have e : (w.alloc (.cells (madeCells #[.int .u16 0] n) 33)).heap.size = w.heap.size + 1 := by simp
  rw [e] at h2
  exact ⟨((Below.refl _ _).alloc (Nat.le_refl _) _).alloc (by rw [e]; omega) _, Nat.le_refl _, by omega, by omega, h1.alloc _, h2⟩

theorem Two.swap {w wr : World} {bs bd n : Nat} {s d : Nat → Int} (h : Two w wr bs bd n s d) : Two w wr bd bs n d s := ⟨h.bel, h.bd1, h.bs1, h.ne.symm, h.rd, h.rs⟩

theorem Two.putS {w wr : World} {bs bd n : Nat} {s d : Nat → Int} (h : Two w wr bs bd n s d) (k : Nat) (v : Int) : Two w (wr.setCell ⟨bs, k, none⟩ (.int .u16 v)) bs bd n (put s k v) d := by
  refine ⟨h.bel.setCell h.bs1 _, h.bs1, h.bd1, h.ne, (h.rs.set k _).congr (fun j _ => ?_), h.rd.setOther h.ne.symm _⟩
  unfold put
  by_cases e : j = k <;> simp [e]

theorem Two.putD {w wr : World} {bs bd n : Nat} {s d : Nat → Int} (h : Two w wr bs bd n s d) (k : Nat) (v : Int) : Two w (wr.setCell ⟨bd, k, none⟩ (.int .u16 v)) bs bd n s (put d k v) :=
  (h.swap.putS k v).swap

theorem Two.drewN {w wr : World} {bs bd n : Nat} {s d : Nat → Int} (h : Two w wr bs bd n s d) (m : Nat) : Two w (wr.drewN m) bs bd n s d :=
  ⟨below_drewN h.bel _, h.bs1, h.bd1, h.ne, h.rs, h.rd⟩

/-- What 'sortedCopy' gives back: f's n values in order. -/
structure SortedOf (f : Nat → Int) (n : Nat) (s : Nat → Int) : Prop where
  ord : ∀ i j, i ≤ j → j < n → s i ≤ s j
  cnt : ∀ v, cntLe s v n = cntLe f v n

/-- The state at the outer loop's head. -/
structure Outer (f s : Nat → Int) (n W : Nat) : Prop where
  w1 : 1 ≤ W
  runs : Runs s W n
  cnt : ∀ v, cntLe s v n = cntLe f v n

theorem outer_start {f s : Nat → Int} {n : Nat} (h : ∀ j, j < n → s j = f j) : Outer f s n 1 := ⟨Nat.le_refl _, runs_one s n, fun v => cntLe_congr h v⟩
theorem outer_next {f s d : Nat → Int} {n W lo : Nat} (h : Outer f s n W) (hp : Pass s d W n lo) (hlo : n ≤ lo) : Outer f d n (2 * W) := by
  have he := pass_end hp hlo
  exact ⟨by have := h.w1; omega, he.1, fun v => (he.2 v).trans (h.cnt v)⟩
theorem outer_end {f s : Nat → Int} {n W : Nat} (h : Outer f s n W) (hW : n ≤ W) : SortedOf f n s := ⟨runs_all h.runs hW, h.cnt⟩

theorem copied_step {s f : Nat → Int} {k : Nat} (h : ∀ j, j < k → s j = f j) : ∀ j, j < k + 1 → put s k (f k) j = f j := by
  intro j hj
  by_cases e : j = k
  · subst e; exact put_at _ _ _
  · rw [put_other _ _ _ e]; exact h j (by omega)

theorem int_eq {k : IntKind} {a b : Int} (h : a = b) : Value.int k a = .int k b := by rw [h]

set_option maxRecDepth 100000 in
set_option maxHeartbeats 1600000 in
theorem sorted_any (a : Option Addr) (n c : Nat) (f : Nat → Int) (w : World) (hn1 : 1 ≤ n) (hn2 : n ≤ 65536) (hR : Reads .u16 w a n f) :
    Calls Try.prog 18 #[.slice a n c] w fun e w' => ∃ (a' : Option Addr) (s : Nat → Int), e = .returned (.slice a' n n) ∧ Fresh .u16 w w' a' n s ∧ SortedOf f n s := by
  have hmk := run_make_row' (P := Try.prog) 30 33 (.int .u16 0) 2 Try.underlying30 Try.info33 rfl .i64 .i64 n (by omega) (by omega)
  obtain ⟨b, off, rfl, hc⟩ := hR (by omega)
  clear hR
  go_enter Try.func18, Try.ntmps18
  go_wp2
  clear hmk
  go_loopw [6] (fun i wr => ∃ k : Nat, k ≤ n ∧ i = .int .i64 k ∧ ∃ s : Nat → Int, Two w wr w.heap.size (w.heap.size + 1) n s (fun _ => 0) ∧ ∀ j, j < k → s j = f j) (fun i _ => n - (intOf i).toNat)
  case atStart => exact ⟨0, Nat.zero_le _, rfl, _, two_start w n, fun j hj => absurd hj (Nat.not_lt_zero _)⟩
  case round =>
    obtain ⟨k, hk, rfl, s, h2, hcp⟩ := hrel
    by_cases hlt : k < n
    · have hcell : wr.cell? ⟨b, off + k, none⟩ = some (.int .u16 (f k)) := (h2.bel.cell (p := ⟨b, off + k, none⟩) (World.block_lt_of_cell? _ _ (hc k hlt))).trans (hc k hlt)
      have hold : wr.cell? ⟨w.heap.size, k, none⟩ = some (.int .u16 (s k)) := h2.rs.cell hlt
      have hfz : wr.frozen? ⟨w.heap.size, k, none⟩ = false := h2.rs.frozen k
      have hS := h2.putS k (f k)
      have hC := copied_step hcp
      clear hc h2 hcp
      go_wp2
      go_roundw
      case rel => exact ⟨k + 1, by omega, by go_num, _, hS, hC⟩
      case measure => simp [intOf]; omega
    · obtain rfl : n = k := by omega
      clear hc
      have hO := outer_start hcp
      clear hcp hlt hk
      go_wp2
      go_loopw [4, 5, 7] (fun sv dv wv wr => ∃ (bs bd W : Nat) (s d : Nat → Int), sv = .slice (some ⟨bs, 0, none⟩) n n ∧ dv = .slice (some ⟨bd, 0, none⟩) n n ∧ wv = .int .i64 W ∧ W ≤ 2 * n ∧ Two w wr bs bd n s d ∧ Outer f s n W) (fun _ _ wv _ => 2 * n - (intOf wv).toNat)
      case atStart => exact ⟨_, _, 1, _, _, rfl, rfl, rfl, by omega, h2, hO⟩
      case round =>
        clear h2 hO
        obtain ⟨bs, bd, W, s, d, rfl, rfl, rfl, hW2, h2, hO⟩ := hrel
        have hW1 := hO.w1
        by_cases hWn : W < n
        · have hP := pass_start (d := d) hW1 hO.runs
          go_wp2
          go_loopw [8] (fun lv wr => ∃ (lo : Nat) (d : Nat → Int), lv = .int .i64 lo ∧ lo ≤ n + 2 * W ∧ Two w wr bs bd n s d ∧ Pass s d W n lo) (fun lv _ => n + 2 * W - (intOf lv).toNat)
          case atStart => exact ⟨0, d, rfl, by omega, h2, hP⟩
          case round =>
            clear h2 hP
            obtain ⟨lo, d, rfl, hlo2, h2, hP⟩ := hrel
            by_cases hlo : lo < n
            · have hM := mid_start (d0 := d) (lo := lo) (mid := min (lo + W) n) (hi := min (lo + 2 * W) n) (by omega) (by omega) (pass_left hP) (pass_right hP)
              obtain ⟨mid, hmid⟩ : ∃ m, m = min (lo + W) n := ⟨_, rfl⟩
              obtain ⟨hi, hhi⟩ : ∃ m, m = min (lo + 2 * W) n := ⟨_, rfl⟩
              rw [← hmid, ← hhi] at hM
              have HM : Hid (mid = min (lo + W) n ∧ hi = min (lo + 2 * W) n) := ⟨hmid, hhi⟩
              clear hmid hhi
              go_upto_if 49 with fail
              go_cut [9] (fun s9 wx => s9 = .int .i64 (mid : Int) ∧ wr = wx)
              case first =>
                by_cases hc1 : (n : Int) < (lo : Int) + W
                · go_wp2_with fail
                  go_meet
                  case rel => exact ⟨int_eq (by have := HM.out.1; omega), rfl⟩
                · go_wp2_with fail
                  go_meet
                  case rel => exact ⟨int_eq (by have := HM.out.1; omega), rfl⟩
              case rest =>
                obtain ⟨rfl, rfl⟩ := hcut
                go_upto_if 57 with fail
                go_cut [10] (fun s10 wx => s10 = .int .i64 (hi : Int) ∧ wr = wx)
                case first =>
                  by_cases hc1 : (n : Int) < (lo : Int) + 2 * W
                  · go_wp2_with fail
                    go_meet
                    case rel => exact ⟨int_eq (by have := HM.out.2; omega), rfl⟩
                  · go_wp2_with fail
                    go_meet
                    case rel => exact ⟨int_eq (by have := HM.out.2; omega), rfl⟩
                case rest =>
                  obtain ⟨rfl, rfl⟩ := hcut
                  have b1 : lo ≤ mid := hM.i2
                  have b2 : mid ≤ hi := hM.j2
                  have b3 : hi ≤ n := by have := HM.out.2; omega
                  go_wp2
                  go_loopw [11, 12, 13] (fun iv jv kv wr => ∃ (i j k : Nat) (d' : Nat → Int), iv = .int .i64 i ∧ jv = .int .i64 j ∧ kv = .int .i64 k ∧ Two w wr bs bd n s d' ∧ Mid s d d' lo mid hi i j k) (fun _ _ kv _ => hi - (intOf kv).toNat)
                  case atStart => exact ⟨lo, mid, lo, d, rfl, rfl, rfl, h2, hM⟩
                  case round =>
                    clear hM h2
                    obtain ⟨i, j, k, d', rfl, rfl, rfl, h2, hm⟩ := hrel
                    have m1 := hm.i1
                    have m2 := hm.i2
                    have m3 := hm.j1
                    have m4 := hm.j2
                    have m5 := hm.k1
                    have m6 := hm.k2
                    have m7 : i + j ≤ k + mid := by have := hm.sum; omega
                    have m8 : k + mid ≤ i + j := by have := hm.sum; omega
                    by_cases hk : k < hi
                    · have hold : wr.cell? ⟨bd, k, none⟩ = some (.int .u16 (d' k)) := h2.rd.cell (by omega)
                      have hfz : wr.frozen? ⟨bd, k, none⟩ = false := h2.rd.frozen k
                      by_cases hil : i < mid
                      · have ci : wr.cell? ⟨bs, i, none⟩ = some (.int .u16 (s i)) := h2.rs.cell (by omega)
                        have gi : (i : Int) < (mid : Int) := by omega
                        have gn : (i : Int) < (n : Int) := by omega
                        by_cases hjh : hi ≤ j
                        · have gj : (hi : Int) ≤ (j : Int) := by omega
                          have hmN := mid_left hm hil hk (fun h => by omega)
                          have h2N := fun q => (h2.drewN q).putD k (s i)
                          clear hm h2
                          go_wp2_with fail
                          go_quiet (fail)
                          go_wp2
                          go_roundw
                          case rel => exact ⟨i + 1, j, k + 1, _, by go_num, rfl, by go_num, h2N _, hmN⟩
                          case measure => simp [intOf]; omega
                        · have cj : wr.cell? ⟨bs, j, none⟩ = some (.int .u16 (s j)) := h2.rs.cell (by omega)
                          have gj : decide ((hi : Int) ≤ (j : Int)) = false := decide_eq_false (by omega)
                          have gjn : (j : Int) < (n : Int) := by omega
                          by_cases hle : s i ≤ s j
                          · have hmN := mid_left hm hil hk (fun _ => hle)
                            have h2N := fun q => (h2.drewN q).putD k (s i)
                            clear hm h2
                            go_wp2_with fail
                            go_quiet (fail)
                            go_wp2
                            go_roundw
                            case rel => exact ⟨i + 1, j, k + 1, _, by go_num, rfl, by go_num, h2N _, hmN⟩
                            case measure => simp [intOf]; omega
                          · have hmN := mid_right hm (by omega) hk (fun _ => by omega)
                            have h2N := fun q => (h2.drewN q).putD k (s j)
                            clear hm h2
                            go_wp2_with fail
                            go_quiet (fail)
                            go_wp2
                            go_roundw
                            case rel => exact ⟨i, j + 1, k + 1, _, rfl, by go_num, by go_num, h2N _, hmN⟩
                            case measure => simp [intOf]; omega
                      · have gi : decide ((i : Int) < (mid : Int)) = false := decide_eq_false (by omega)
                        have cj : wr.cell? ⟨bs, j, none⟩ = some (.int .u16 (s j)) := h2.rs.cell (by omega)
                        have gjn : (j : Int) < (n : Int) := by omega
                        have hmN := mid_right hm (by omega) hk (fun h => by omega)
                        have h2N := fun q => (h2.drewN q).putD k (s j)
                        clear hm h2
                        go_wp2_with fail
                        go_quiet (fail)
                        go_wp2
                        go_roundw
                        case rel => exact ⟨i, j + 1, k + 1, _, rfl, by go_num, by go_num, h2N _, hmN⟩
                        case measure => simp [intOf]; omega
                    · have hP2 : Pass s d' W n (lo + 2 * W) := by
                        have hh := HM.out
                        rw [hh.1, hh.2] at hm
                        exact pass_step hP hlo hm (by omega)
                      clear hm hP
                      go_wp2
                      go_roundw
                      case rel => exact ⟨lo + 2 * W, d', by go_num, by omega, h2, hP2⟩
                      case measure => simp [intOf]; omega
            · have hO2 := outer_next hO hP (by omega)
              have h3 := h2.swap
              clear hO hP h2
              go_wp2
              go_roundw
              case rel => exact ⟨bd, bs, 2 * W, d, s, rfl, rfl, by go_num, by omega, h3, hO2⟩
              case measure => simp [intOf]; omega
        · have hE := outer_end hO (by omega)
          have hF : Fresh .u16 w wr (some ⟨bs, 0, none⟩) n s := ⟨fun h => absurd h (by simp), h2.bel, reads_row h2.rs⟩
          clear hO h2
          go_wp2
          go_ret
          exact ⟨_, s, rfl, hF, hE⟩
end Go.Proofs.Qxb6603164a

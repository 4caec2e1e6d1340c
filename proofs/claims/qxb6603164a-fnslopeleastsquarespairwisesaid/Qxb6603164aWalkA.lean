/-
  THE WALKS OF THE SHARED FUNCTIONS: Count (17); the three clones (12, 22, 16) and toThousandths (24).
-/
import Derived.Test.Qxb6603164aRows
import Derived.Test.Qxb6603164aPlain
import Derived.WalkKit
import Derived.WalkSpells
import Derived.Lib.SliceRun
import Derived.Deep.OwnRows
namespace Go.Proofs.Qxb6603164a
open Go.RowKit Plain

/-- A slice of n integers that reads as f. -/
def Reads (k : IntKind) (w : World) (a : Option Addr) (n : Nat) (f : Nat → Int) : Prop :=
  0 < n → ∃ b off, a = some ⟨b, off, none⟩ ∧ ∀ i, i < n → w.cell? ⟨b, off + i, none⟩ = some (.int k (f i))

theorem ret_int {k : IntKind} {a b : Int} (h : a = b) : Ending.returned (.int k a) = .returned (.int k b) := by rw [h]

theorem count_any (a : Option Addr) (n c : Nat) (f : Nat → Int) (w : World) (hn : n ≤ 9223372036854775807) (hR : Reads .i64 w a n f) :
    Calls Try.prog 17 #[.slice a n c] w fun e w' => e = .returned (.int .i64 (wrap64 (sumN f n))) ∧ w' = w := by
  go_enter Try.func17, Try.ntmps17
  go_wp2
  go_loop [3, 8] (fun t i => ∃ k : Nat, k ≤ n ∧ i = .int .i64 k ∧ t = .int .i64 (wrap64 (sumN f k))) (fun _ i => n - (intOf i).toNat)
  case atStart => exact ⟨0, Nat.zero_le _, rfl, by rw [sumN_zero, wrap_zero]⟩
  case round =>
    obtain ⟨k, hk, rfl, rfl⟩ := hrel
    by_cases hlt : k < n
    · obtain ⟨b, off, rfl, hc⟩ := hR (by omega)
      have hcell := hc k hlt
      clear hc hR
      go_wp2
      go_round
      case rel => exact ⟨k + 1, by omega, by go_num, by rw [sumN_succ, wrap_add_left]⟩
      case measure => simp [intOf]; omega
    · have : k = n := by omega
      subst this
      clear hR
      go_wp2
      go_ret
      exact ⟨rfl, rfl⟩

/-! ### The clones -/
/-- m of the n cells of the new row are copied. -/
structure Cl (k : IntKind) (t : TypeId) (w wr : World) (n m : Nat) (f : Nat → Int) : Prop where
  bel : Below w.heap.size w wr
  row : wr.rowIs w.heap.size t n (fun j => .int k (if j < m then f j else 0))

theorem cl_start (k : IntKind) (t : TypeId) (w : World) (n : Nat) (f : Nat → Int) : Cl k t w (w.alloc (.cells (madeCells #[.int k 0] n) t)) n 0 f :=
  ⟨(Below.refl _ _).alloc (Nat.le_refl _) _, (World.rowIs_made w _ n t).congr (fun j _ => by simp)⟩

theorem cl_step {k : IntKind} {t : TypeId} {w wr : World} {n m : Nat} {f : Nat → Int} (h : Cl k t w wr n m f) : Cl k t w (wr.setCell ⟨w.heap.size, m, none⟩ (.int k (f m))) n (m + 1) f := by
  refine ⟨h.bel.setCell (Nat.le_refl _) _, (h.row.set m _).congr (fun j _ => ?_)⟩
  by_cases e : j = m
  · subst e; simp
  · rw [if_neg e]
    by_cases hlt : j < m
    · rw [if_pos hlt, if_pos (by omega)]
    · rw [if_neg hlt, if_neg (by omega)]

theorem cl_end {k : IntKind} {t : TypeId} {w wr : World} {n : Nat} {f : Nat → Int} (h : Cl k t w wr n n f) : wr.rowIs w.heap.size t n (fun j => .int k (f j)) :=
  h.row.congr (fun j hj => by rw [if_pos hj])

theorem reads_row {k : IntKind} {t : TypeId} {w : World} {b n : Nat} {f : Nat → Int} (h : w.rowIs b t n (fun j => .int k (f j))) : Reads k w (some ⟨b, 0, none⟩) n f :=
  fun _ => ⟨b, 0, rfl, fun i hi => by rw [Nat.zero_add]; exact h.cell hi⟩

theorem reads_nil (k : IntKind) (w : World) (a : Option Addr) (f : Nat → Int) : Reads k w a 0 f := fun h => absurd h (Nat.lt_irrefl 0)

/-- What was there reads as it did. -/
theorem Reads.below {k : IntKind} {w w' : World} {a : Option Addr} {n : Nat} {f : Nat → Int} (h : Reads k w a n f) (hb : Below w.heap.size w w') : Reads k w' a n f := by
  intro hn
  obtain ⟨b, off, e, hc⟩ := h hn
  exact ⟨b, off, e, fun i hi => (hb.cell (p := ⟨b, off + i, none⟩) (World.block_lt_of_cell? _ _ (hc i hi))).trans (hc i hi)⟩

/-- A slice of the call's own making: n integers that read as f; nothing that was there has turned. -/
structure Fresh (k : IntKind) (w w' : World) (a : Option Addr) (n : Nat) (f : Nat → Int) : Prop where
  nil : a = none → n = 0
  bel : Below w.heap.size w w'
  reads : Reads k w' a n f

theorem Try.info3 : (Try.prog.info? 3).map (fun i => (i.zero, i.size, i.bytes)) = some (some (.int .i64 0), 1, 8) := by kernel_rfl
theorem Try.info2 : (Try.prog.info? 2).map (fun i => (i.zero, i.size, i.bytes)) = some (some (.int .i64 0), 1, 8) := by kernel_rfl
theorem Try.info33 : (Try.prog.info? 33).map (fun i => (i.zero, i.size, i.bytes)) = some (some (.int .u16 0), 1, 2) := by kernel_rfl
theorem Try.info39 : (Try.prog.info? 39).map (fun i => (i.zero, i.size, i.bytes)) = some (some (.int .i64 0), 1, 8) := by kernel_rfl

/-- 'cloneInts' -/
theorem cloneInts_any (a : Option Addr) (n c : Nat) (f : Nat → Int) (w : World) (hn : n ≤ 1048576) (ha : a = none → n = 0 ∧ c = 0) (hR : Reads .i64 w a n f) :
    Calls Try.prog 12 #[.slice a n c] w fun e w' => ∃ a', e = .returned (.slice a' n n) ∧ Fresh .i64 w w' a' n f := by
  have q22 : ∀ (w : World) (a : Option Addr) (n c n' c' : Nat), (binOp .eql 22 (.slice a n c) (.slice none n' c')).run Try.prog w = .ok (.bool a.isNone) w := fun w a n c n' c' => Lib.run_eql_slice_nil w _ _ a n c n' c' Try.underlying22
  cases a with
  | none =>
    obtain ⟨rfl, rfl⟩ := ha rfl
    go_enter Try.func12, Try.ntmps12
    go_wp2
    go_ret
    exact ⟨none, rfl, ⟨fun _ => rfl, Below.refl _ _, reads_nil _ _ _ _⟩⟩
  | some x =>
    have hmk := run_make_row' (P := Try.prog) 22 3 (.int .i64 0) 8 Try.underlying22 Try.info3 rfl .i64 .i64 n (by omega) (by omega)
    clear ha
    go_enter Try.func12, Try.ntmps12
    go_wp2
    clear hmk q22
    go_loopw [4] (fun i wr => ∃ k : Nat, k ≤ n ∧ i = .int .i64 k ∧ Cl .i64 3 w wr n k f) (fun i _ => n - (intOf i).toNat)
    case atStart => exact ⟨0, Nat.zero_le _, rfl, cl_start _ _ _ _ _⟩
    case round =>
      obtain ⟨k, hk, rfl, hC⟩ := hrel
      by_cases hlt : k < n
      · obtain ⟨b, off, he, hc⟩ := hR (by omega)
        obtain rfl : x = ⟨b, off, none⟩ := by simpa using he
        clear he
        have hcell : wr.cell? ⟨b, off + k, none⟩ = some (.int .i64 (f k)) := (hC.bel.cell (p := ⟨b, off + k, none⟩) (World.block_lt_of_cell? _ _ (hc k hlt))).trans (hc k hlt)
        have hold : wr.cell? ⟨w.heap.size, k, none⟩ = some (.int .i64 (if k < k then f k else 0)) := hC.row.cell hlt
        have hfz : wr.frozen? ⟨w.heap.size, k, none⟩ = false := hC.row.frozen k
        have hS := cl_step hC
        clear hc hR hC
        go_wp2
        go_roundw
        case rel => exact ⟨k + 1, by omega, by go_num, hS⟩
        case measure => simp [intOf]; omega
      · have : k = n := by omega
        subst this
        clear hR
        go_wp2
        go_ret
        exact ⟨_, rfl, ⟨fun h => absurd h (by simp), hC.bel, reads_row (cl_end hC)⟩⟩

/-- 'cloneInt64s' -/
theorem cloneInt64s_any (a : Option Addr) (n c : Nat) (f : Nat → Int) (w : World) (hn : n ≤ 1048576) (ha : a = none → n = 0 ∧ c = 0) (hR : Reads .i64 w a n f) :
    Calls Try.prog 22 #[.slice a n c] w fun e w' => ∃ a', e = .returned (.slice a' n n) ∧ Fresh .i64 w w' a' n f := by
  have q35 : ∀ (w : World) (a : Option Addr) (n c n' c' : Nat), (binOp .eql 35 (.slice a n c) (.slice none n' c')).run Try.prog w = .ok (.bool a.isNone) w := fun w a n c n' c' => Lib.run_eql_slice_nil w _ _ a n c n' c' Try.underlying35
  cases a with
  | none =>
    obtain ⟨rfl, rfl⟩ := ha rfl
    go_enter Try.func22, Try.ntmps22
    go_wp2
    go_ret
    exact ⟨none, rfl, ⟨fun _ => rfl, Below.refl _ _, reads_nil _ _ _ _⟩⟩
  | some x =>
    have hmk := run_make_row' (P := Try.prog) 35 2 (.int .i64 0) 8 Try.underlying35 Try.info2 rfl .i64 .i64 n (by omega) (by omega)
    clear ha
    go_enter Try.func22, Try.ntmps22
    go_wp2
    clear hmk q35
    go_loopw [4] (fun i wr => ∃ k : Nat, k ≤ n ∧ i = .int .i64 k ∧ Cl .i64 2 w wr n k f) (fun i _ => n - (intOf i).toNat)
    case atStart => exact ⟨0, Nat.zero_le _, rfl, cl_start _ _ _ _ _⟩
    case round =>
      obtain ⟨k, hk, rfl, hC⟩ := hrel
      by_cases hlt : k < n
      · obtain ⟨b, off, he, hc⟩ := hR (by omega)
        obtain rfl : x = ⟨b, off, none⟩ := by simpa using he
        clear he
        have hcell : wr.cell? ⟨b, off + k, none⟩ = some (.int .i64 (f k)) := (hC.bel.cell (p := ⟨b, off + k, none⟩) (World.block_lt_of_cell? _ _ (hc k hlt))).trans (hc k hlt)
        have hold : wr.cell? ⟨w.heap.size, k, none⟩ = some (.int .i64 (if k < k then f k else 0)) := hC.row.cell hlt
        have hfz : wr.frozen? ⟨w.heap.size, k, none⟩ = false := hC.row.frozen k
        have hS := cl_step hC
        clear hc hR hC
        go_wp2
        go_roundw
        case rel => exact ⟨k + 1, by omega, by go_num, hS⟩
        case measure => simp [intOf]; omega
      · have : k = n := by omega
        subst this
        clear hR
        go_wp2
        go_ret
        exact ⟨_, rfl, ⟨fun h => absurd h (by simp), hC.bel, reads_row (cl_end hC)⟩⟩

/-- 'cloneU16s' -/
theorem cloneU16s_any (a : Option Addr) (n c : Nat) (f : Nat → Int) (w : World) (hn : n ≤ 1048576) (ha : a = none → n = 0 ∧ c = 0) (hR : Reads .u16 w a n f) :
    Calls Try.prog 16 #[.slice a n c] w fun e w' => ∃ a', e = .returned (.slice a' n n) ∧ Fresh .u16 w w' a' n f := by
  have q30 : ∀ (w : World) (a : Option Addr) (n c n' c' : Nat), (binOp .eql 30 (.slice a n c) (.slice none n' c')).run Try.prog w = .ok (.bool a.isNone) w := fun w a n c n' c' => Lib.run_eql_slice_nil w _ _ a n c n' c' Try.underlying30
  cases a with
  | none =>
    obtain ⟨rfl, rfl⟩ := ha rfl
    go_enter Try.func16, Try.ntmps16
    go_wp2
    go_ret
    exact ⟨none, rfl, ⟨fun _ => rfl, Below.refl _ _, reads_nil _ _ _ _⟩⟩
  | some x =>
    have hmk := run_make_row' (P := Try.prog) 30 33 (.int .u16 0) 2 Try.underlying30 Try.info33 rfl .i64 .i64 n (by omega) (by omega)
    clear ha
    go_enter Try.func16, Try.ntmps16
    go_wp2
    clear hmk q30
    go_loopw [4] (fun i wr => ∃ k : Nat, k ≤ n ∧ i = .int .i64 k ∧ Cl .u16 33 w wr n k f) (fun i _ => n - (intOf i).toNat)
    case atStart => exact ⟨0, Nat.zero_le _, rfl, cl_start _ _ _ _ _⟩
    case round =>
      obtain ⟨k, hk, rfl, hC⟩ := hrel
      by_cases hlt : k < n
      · obtain ⟨b, off, he, hc⟩ := hR (by omega)
        obtain rfl : x = ⟨b, off, none⟩ := by simpa using he
        clear he
        have hcell : wr.cell? ⟨b, off + k, none⟩ = some (.int .u16 (f k)) := (hC.bel.cell (p := ⟨b, off + k, none⟩) (World.block_lt_of_cell? _ _ (hc k hlt))).trans (hc k hlt)
        have hold : wr.cell? ⟨w.heap.size, k, none⟩ = some (.int .u16 (if k < k then f k else 0)) := hC.row.cell hlt
        have hfz : wr.frozen? ⟨w.heap.size, k, none⟩ = false := hC.row.frozen k
        have hS := cl_step hC
        clear hc hR hC
        go_wp2
        go_roundw
        case rel => exact ⟨k + 1, by omega, by go_num, hS⟩
        case measure => simp [intOf]; omega
      · have : k = n := by omega
        subst this
        clear hR
        go_wp2
        go_ret
        exact ⟨_, rfl, ⟨fun h => absurd h (by simp), hC.bel, reads_row (cl_end hC)⟩⟩

/-- 'toThousandths' -/
theorem toThousandths_any (a : Option Addr) (n c : Nat) (f : Nat → Int) (w : World) (hn : n ≤ 1048576) (ha : a = none → n = 0 ∧ c = 0) (hR : Reads .i64 w a n f) :
    Calls Try.prog 24 #[.slice a n c] w fun e w' => ∃ a', e = .returned (.slice a' n n) ∧ Fresh .i64 w w' a' n f := by
  have q35 : ∀ (w : World) (a : Option Addr) (n c n' c' : Nat), (binOp .eql 35 (.slice a n c) (.slice none n' c')).run Try.prog w = .ok (.bool a.isNone) w := fun w a n c n' c' => Lib.run_eql_slice_nil w _ _ a n c n' c' Try.underlying35
  cases a with
  | none =>
    obtain ⟨rfl, rfl⟩ := ha rfl
    go_enter Try.func24, Try.ntmps24
    go_wp2
    go_ret
    exact ⟨none, rfl, ⟨fun _ => rfl, Below.refl _ _, reads_nil _ _ _ _⟩⟩
  | some x =>
    have hmk := run_make_row' (P := Try.prog) 41 39 (.int .i64 0) 8 Try.underlying41 Try.info39 rfl .i64 .i64 n (by omega) (by omega)
    clear ha
    go_enter Try.func24, Try.ntmps24
    go_wp2
    clear hmk q35
    go_loopw [4] (fun i wr => ∃ k : Nat, k ≤ n ∧ i = .int .i64 k ∧ Cl .i64 39 w wr n k f) (fun i _ => n - (intOf i).toNat)
    case atStart => exact ⟨0, Nat.zero_le _, rfl, cl_start _ _ _ _ _⟩
    case round =>
      obtain ⟨k, hk, rfl, hC⟩ := hrel
      by_cases hlt : k < n
      · obtain ⟨b, off, he, hc⟩ := hR (by omega)
        obtain rfl : x = ⟨b, off, none⟩ := by simpa using he
        clear he
        have hcell : wr.cell? ⟨b, off + k, none⟩ = some (.int .i64 (f k)) := (hC.bel.cell (p := ⟨b, off + k, none⟩) (World.block_lt_of_cell? _ _ (hc k hlt))).trans (hc k hlt)
        have hold : wr.cell? ⟨w.heap.size, k, none⟩ = some (.int .i64 (if k < k then f k else 0)) := hC.row.cell hlt
        have hfz : wr.frozen? ⟨w.heap.size, k, none⟩ = false := hC.row.frozen k
        have hS := cl_step hC
        clear hc hR hC
        go_wp2
        go_roundw
        case rel => exact ⟨k + 1, by omega, by go_num, hS⟩
        case measure => simp [intOf]; omega
      · have : k = n := by omega
        subst this
        clear hR
        go_wp2
        go_ret
        exact ⟨_, rfl, ⟨fun h => absurd h (by simp), hC.bel, reads_row (cl_end hC)⟩⟩
end Go.Proofs.Qxb6603164a

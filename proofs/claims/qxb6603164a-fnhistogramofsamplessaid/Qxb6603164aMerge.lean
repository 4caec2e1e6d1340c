/-
  THE PLAIN LAW OF THE BOTTOM-UP MERGE SORT (no Go in sight): what one step of the innermost loop, one merge, one pass and the whole leave.
-/
import Derived.Test.Qxb6603164aPlain
namespace Go.Proofs.Qxb6603164a.Plain

/-- Each run of 'w' from a multiple of 'w' on is in order, as far as m. -/
def Runs (s : Nat → Int) (w m : Nat) : Prop := ∀ a i j, w ∣ a → a ≤ i → i ≤ j → j < a + w → j < m → s i ≤ s j

/-- A store. -/
def put (d : Nat → Int) (k : Nat) (v : Int) : Nat → Int := fun t => if t = k then v else d t

theorem put_at (d : Nat → Int) (k : Nat) (v : Int) : put d k v k = v := by simp [put]
theorem put_other (d : Nat → Int) (k : Nat) (v : Int) {t : Nat} (h : t ≠ k) : put d k v t = d t := by simp [put, h]

/-- WHAT HOLDS AT THE INNERMOST LOOP's HEAD: src's two runs [lo, mid), [mid, hi) are merged into d as far as k; i and j are the next of each. -/
structure Mid (src d0 d : Nat → Int) (lo mid hi i j k : Nat) : Prop where
  i1 : lo ≤ i
  i2 : i ≤ mid
  j1 : mid ≤ j
  j2 : j ≤ hi
  k1 : lo ≤ k
  k2 : k ≤ hi
  sum : i + j = k + mid
  left : ∀ a b, lo ≤ a → a ≤ b → b < mid → src a ≤ src b
  right : ∀ a b, mid ≤ a → a ≤ b → b < hi → src a ≤ src b
  done : ∀ a b, lo ≤ a → a ≤ b → b < k → d a ≤ d b
  lef : i < mid → ∀ a, lo ≤ a → a < k → d a ≤ src i
  rig : j < hi → ∀ a, lo ≤ a → a < k → d a ≤ src j
  cnt : ∀ v, cntLe d v k - cntLe d v lo = (cntLe src v i - cntLe src v lo) + (cntLe src v j - cntLe src v mid)
  low : ∀ t, t < lo → d t = d0 t

theorem cnt_put (d : Nat → Int) (k : Nat) (x v : Int) {m : Nat} (h : m ≤ k) : cntLe (put d k x) v m = cntLe d v m :=
  cntLe_congr (fun t ht => put_other d k x (by omega)) v

theorem mid_start {src d0 : Nat → Int} {lo mid hi : Nat} (h1 : lo ≤ mid) (h2 : mid ≤ hi) (hl : ∀ a b, lo ≤ a → a ≤ b → b < mid → src a ≤ src b) (hr : ∀ a b, mid ≤ a → a ≤ b → b < hi → src a ≤ src b) :
    Mid src d0 d0 lo mid hi lo mid lo :=
  ⟨Nat.le_refl _, h1, Nat.le_refl _, h2, Nat.le_refl _, by omega, rfl, hl, hr, fun a b _ _ _ => by omega, fun _ a _ _ => by omega, fun _ a _ _ => by omega, fun v => by omega, fun _ _ => rfl⟩

/-- The left one is taken: the right run is empty or its head is no smaller. -/
theorem mid_left {src d0 d : Nat → Int} {lo mid hi i j k : Nat} (h : Mid src d0 d lo mid hi i j k) (hi' : i < mid) (hk : k < hi) (hle : j < hi → src i ≤ src j) :
    Mid src d0 (put d k (src i)) lo mid hi (i + 1) j (k + 1) := by
  refine ⟨by have := h.i1; omega, by omega, h.j1, h.j2, by have := h.k1; omega, by omega, by have := h.sum; omega, h.left, h.right, ?_, ?_, ?_, ?_, ?_⟩
  · intro a b ha hab hb
    by_cases e : b = k
    · subst e
      rw [put_at]
      by_cases e2 : a = b
      · subst e2; rw [put_at]; exact Int.le_refl _
      · rw [put_other _ _ _ e2]; exact h.lef hi' a ha (by omega)
    · rw [put_other _ _ _ e, put_other _ _ _ (by omega)]; exact h.done a b ha hab (by omega)
  · intro hi2 a ha hak
    by_cases e : a = k
    · subst e; rw [put_at]; exact h.left i (i + 1) h.i1 (by omega) hi2
    · rw [put_other _ _ _ e]
      exact Int.le_trans (h.lef hi' a ha (by omega)) (h.left i (i + 1) h.i1 (by omega) hi2)
  · intro hj a ha hak
    by_cases e : a = k
    · subst e; rw [put_at]; exact hle hj
    · rw [put_other _ _ _ e]; exact h.rig hj a ha (by omega)
  · intro v
    have := h.cnt v
    rw [cntLe_succ, put_at, cnt_put _ _ _ _ (Nat.le_refl _), cnt_put _ _ _ _ h.k1, cntLe_succ]
    omega
  · intro t ht
    rw [put_other _ _ _ (by have := h.k1; omega)]; exact h.low t ht

/-- The right one is taken: the left run is empty or its head is greater. -/
theorem mid_right {src d0 d : Nat → Int} {lo mid hi i j k : Nat} (h : Mid src d0 d lo mid hi i j k) (hj' : j < hi) (hk : k < hi) (hle : i < mid → src j ≤ src i) :
    Mid src d0 (put d k (src j)) lo mid hi i (j + 1) (k + 1) := by
  refine ⟨h.i1, h.i2, by have := h.j1; omega, by omega, by have := h.k1; omega, by omega, by have := h.sum; omega, h.left, h.right, ?_, ?_, ?_, ?_, ?_⟩
  · intro a b ha hab hb
    by_cases e : b = k
    · subst e
      rw [put_at]
      by_cases e2 : a = b
      · subst e2; rw [put_at]; exact Int.le_refl _
      · rw [put_other _ _ _ e2]; exact h.rig hj' a ha (by omega)
    · rw [put_other _ _ _ e, put_other _ _ _ (by omega)]; exact h.done a b ha hab (by omega)
  · intro hi2 a ha hak
    by_cases e : a = k
    · subst e; rw [put_at]; exact hle hi2
    · rw [put_other _ _ _ e]; exact h.lef hi2 a ha (by omega)
  · intro hj a ha hak
    by_cases e : a = k
    · subst e; rw [put_at]; exact h.right j (j + 1) h.j1 (by omega) hj
    · rw [put_other _ _ _ e]
      exact Int.le_trans (h.rig hj' a ha (by omega)) (h.right j (j + 1) h.j1 (by omega) hj)
  · intro v
    have := h.cnt v
    rw [cntLe_succ, put_at, cnt_put _ _ _ _ (Nat.le_refl _), cnt_put _ _ _ _ h.k1, cntLe_succ]
    omega
  · intro t ht
    rw [put_other _ _ _ (by have := h.k1; omega)]; exact h.low t ht

/-- WHAT HOLDS AT A PASS's HEAD (lo: a multiple of 2 w): d holds src's runs merged by twos as far as lo. -/
structure Pass (src d : Nat → Int) (w n lo : Nat) : Prop where
  wpos : 1 ≤ w
  dvd : 2 * w ∣ lo
  runs : Runs src w n
  done : Runs d (2 * w) (min lo n)
  cnt : ∀ v, cntLe d v (min lo n) = cntLe src v (min lo n)

theorem pass_start {src d : Nat → Int} {w n : Nat} (hw : 1 ≤ w) (hr : Runs src w n) : Pass src d w n 0 :=
  ⟨hw, Nat.dvd_zero _, hr, fun a i j _ _ _ _ hj => by simp at hj, fun v => by simp [cntLe, sumN]⟩

theorem dvd_next {w a b : Nat} (ha : w ∣ a) (hb : w ∣ b) (h : a < b + w) : a ≤ b := by
  obtain ⟨x, rfl⟩ := ha
  obtain ⟨y, rfl⟩ := hb
  have h2 : w * x < w * (y + 1) := by rw [Nat.mul_add, Nat.mul_one]; exact h
  have h3 : x < y + 1 := Nat.lt_of_mul_lt_mul_left h2
  exact Nat.mul_le_mul_left w (by omega)

theorem pass_left {src d : Nat → Int} {w n lo : Nat} (h : Pass src d w n lo) : ∀ a b, lo ≤ a → a ≤ b → b < min (lo + w) n → src a ≤ src b := by
  intro a b ha hab hb
  exact h.runs lo a b (Nat.dvd_trans ⟨2, by omega⟩ h.dvd) ha hab (by omega) (by omega)
theorem pass_right {src d : Nat → Int} {w n lo : Nat} (h : Pass src d w n lo) : ∀ a b, min (lo + w) n ≤ a → a ≤ b → b < min (lo + 2 * w) n → src a ≤ src b := by
  intro a b ha hab hb
  exact h.runs (lo + w) a b (Nat.dvd_add (Nat.dvd_trans ⟨2, by omega⟩ h.dvd) (Nat.dvd_refl _)) (by omega) hab (by omega) (by omega)

/-- One merge more. -/
theorem pass_step {src d d' : Nat → Int} {w n lo i j k : Nat} (h : Pass src d w n lo) (hlo : lo < n) (m : Mid src d d' lo (min (lo + w) n) (min (lo + 2 * w) n) i j k) (hk : min (lo + 2 * w) n ≤ k) : Pass src d' w n (lo + 2 * w) := by
  have k2 := m.k2; have i2 := m.i2; have j2 := m.j2; have sm := m.sum; have j1 := m.j1; have wp := h.wpos
  have ek : k = min (lo + 2 * w) n := by omega
  subst ek
  have ei : i = min (lo + w) n := by omega
  have ej : j = min (lo + 2 * w) n := by omega
  subst ei
  subst ej
  refine ⟨h.wpos, Nat.dvd_add h.dvd (Nat.dvd_refl _), h.runs, ?_, ?_⟩
  · intro a p q hda hap hpq hq hqm
    by_cases hal : a < lo
    · -- a run that was done before
      have hend : a + 2 * w ≤ lo := by
        rcases Nat.lt_or_ge lo (a + 2 * w) with hh | hh
        · have := dvd_next (w := 2 * w) h.dvd hda hh; omega
        · exact hh
      rw [m.low p (by omega), m.low q (by omega)]
      exact h.done a p q hda hap hpq hq (by omega)
    · have hal2 : a ≤ lo := dvd_next (w := 2 * w) hda h.dvd (by omega)
      have : a = lo := by omega
      subst this
      exact m.done p q hap hpq (by omega)
  · intro v
    have hc := m.cnt v
    have h1 : cntLe d' v lo = cntLe d v lo := cntLe_congr (fun t ht => m.low t ht) v
    have h2 := h.cnt v
    rw [show min lo n = lo from by omega] at h2
    omega

/-- A pass's end. -/
theorem pass_end {src d : Nat → Int} {w n lo : Nat} (h : Pass src d w n lo) (hlo : n ≤ lo) : Runs d (2 * w) n ∧ ∀ v, cntLe d v n = cntLe src v n := by
  have e : min lo n = n := by omega
  have h1 := h.done; have h2 := h.cnt
  rw [e] at h1 h2
  exact ⟨h1, h2⟩

theorem runs_one (s : Nat → Int) (n : Nat) : Runs s 1 n := by
  intro a i j _ hai hij hj _
  have : i = j := by omega
  subst this; exact Int.le_refl _

/-- One run as long as all: in order. -/
theorem runs_all {s : Nat → Int} {w n : Nat} (h : Runs s w n) (hw : n ≤ w) : ∀ i j, i ≤ j → j < n → s i ≤ s j :=
  fun i j hij hj => h 0 i j (Nat.dvd_zero _) (Nat.zero_le _) hij (by omega) hj

end Go.Proofs.Qxb6603164a.Plain

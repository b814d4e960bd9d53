/-
  THE PLAIN LAW BEHIND 'place all': no Go in sight.
-/
import Derived.Test.Qxb6628496aPlace
namespace Go.Proofs.Qxb6628496a

/-- How many of the first m offsets lie in window v. -/
def cn (W : Nat → Nat) : Nat → Nat → Nat
  | 0, _ => 0
  | m + 1, v => cn W m v + if W m = v then 1 else 0
def cnI (W : Nat → Nat) (m : Nat) : Nat → Int := fun v => (cn W m v : Int)

theorem cn_mono (W : Nat → Nat) (v : Nat) {m n : Nat} (h : m ≤ n) : cn W m v ≤ cn W n v := by
  induction n with
  | zero => have : m = 0 := by omega
            subst this; exact Nat.le_refl _
  | succ n ih =>
    by_cases e : m = n + 1
    · subst e; exact Nat.le_refl _
    · have := ih (by omega)
      simp only [cn]; omega
theorem cn_le (W : Nat → Nat) (m v : Nat) : cn W m v ≤ m := by
  induction m with
  | zero => exact Nat.le_refl _
  | succ m ih => simp only [cn]; split <;> omega
theorem cn_self (W : Nat → Nat) (m : Nat) : cn W (m + 1) (W m) = cn W m (W m) + 1 := by simp [cn]
theorem cn_other (W : Nat → Nat) (m : Nat) {v : Nat} (h : v ≠ W m) : cn W (m + 1) v = cn W m v := by
  simp [cn]; intro e; exact absurd e.symm h

theorem pre_congr {f g : Nat → Int} {v : Nat} (h : ∀ j, j < v → f j = g j) : pre f v = pre g v := by
  induction v with
  | zero => rfl
  | succ v ih => simp only [pre]; rw [ih (fun j hj => h j (by omega)), h v (by omega)]
theorem pre_mono {f : Nat → Int} (h : ∀ j, 0 ≤ f j) {u v : Nat} (huv : u ≤ v) : pre f u ≤ pre f v := by
  induction v with
  | zero => have : u = 0 := by omega
            subst this; exact Int.le_refl _
  | succ v ih =>
    by_cases e : u = v + 1
    · subst e; exact Int.le_refl _
    · have := ih (by omega); have := h v; simp only [pre]; omega
theorem pre_nonneg {f : Nat → Int} (h : ∀ j, 0 ≤ f j) (v : Nat) : 0 ≤ pre f v := pre_mono h (Nat.zero_le v)

theorem cnI_nonneg (W : Nat → Nat) (m v : Nat) : 0 ≤ cnI W m v := by unfold cnI; omega

theorem pre_cn_step (W : Nat → Nat) (m k : Nat) : pre (cnI W (m + 1)) k = pre (cnI W m) k + if W m < k then 1 else 0 := by
  induction k with
  | zero => simp [pre]
  | succ k ih =>
    simp only [pre, ih]
    have e : cnI W (m + 1) k = cnI W m k + if W m = k then 1 else 0 := by
      show ((cn W m k + if W m = k then 1 else 0 : Nat) : Int) = (cn W m k : Int) + _
      split <;> simp
    rw [e]
    by_cases h1 : W m < k
    · have : W m < k + 1 := by omega
      have h3 : W m ≠ k := by omega
      simp [h1, this, h3]; omega
    · by_cases h2 : W m = k
      · have : W m < k + 1 := by omega
        rw [if_neg h1, if_pos h2, if_pos this]; omega
      · have : ¬ W m < k + 1 := by omega
        simp [h1, this, h2]

/-- All the offsets lie in some window. -/
theorem pre_cn (W : Nat → Nat) (k n : Nat) (h : ∀ i, i < n → W i < k) : pre (cnI W n) k = n := by
  induction n with
  | zero =>
    have : ∀ k, pre (cnI W 0) k = 0 := by
      intro k
      induction k with
      | zero => rfl
      | succ k ih => simp only [pre, ih]; simp [cnI, cn]
    rw [this]; rfl
  | succ n ih =>
    rw [pre_cn_step, ih (fun i hi => h i (by omega)), if_pos (h n (by omega))]
    omega

/-- Where window v's offsets start once m of all n are placed. -/
def st (W : Nat → Nat) (n m : Nat) : Nat → Int := fun v => pre (cnI W n) (v + 1) - cnI W m v

theorem st_lo (W : Nat → Nat) {n m : Nat} (v : Nat) (h : m ≤ n) : pre (cnI W n) v ≤ st W n m v := by
  have := cn_mono W v h
  unfold st; simp only [pre]; unfold cnI; omega
theorem st_hi (W : Nat → Nat) (n m v : Nat) : st W n m v ≤ pre (cnI W n) (v + 1) := by
  have := cnI_nonneg W m v
  unfold st; omega
theorem st_nonneg (W : Nat → Nat) {n m : Nat} (v : Nat) (h : m ≤ n) : 0 ≤ st W n m v :=
  Int.le_trans (pre_nonneg (cnI_nonneg W n) v) (st_lo W v h)
theorem st_step (W : Nat → Nat) (n m : Nat) : st W n (m + 1) (W m) = st W n m (W m) - 1 := by
  unfold st cnI; rw [cn_self]; omega
theorem st_upd (W : Nat → Nat) (n m j : Nat) : st W n (m + 1) j = upd (st W n m) (W m) (st W n m (W m) - 1) j := by
  by_cases h : j = W m
  · subst h; rw [upd_same, st_step]
  · rw [upd_other _ _ h]; unfold st cnI; rw [cn_other W m h]
theorem st_back (W : Nat → Nat) (n m j : Nat) : st W n m j = upd (st W n (m + 1)) (W m) (st W n (m + 1) (W m) + 1) j := by
  by_cases h : j = W m
  · subst h; rw [upd_same, st_step]; omega
  · rw [upd_other _ _ h]; unfold st cnI; rw [cn_other W m h]
/-- A place that is filled: within the room. -/
theorem st_lt (W : Nat → Nat) (k n i : Nat) (h : ∀ i, i < n → W i < k) (hi : i < n) : st W n (i + 1) (W i) < n := by
  have h1 := st_step W n i
  have h2 := st_hi W n i (W i)
  have h3 := pre_mono (cnI_nonneg W n) (show W i + 1 ≤ k from h i hi)
  rw [pre_cn W k n h] at h3
  omega
/-- No place is filled twice. -/
theorem st_ne (W : Nat → Nat) (n i m : Nat) (him : i < m) (hm : m < n) : st W n (i + 1) (W i) ≠ st W n (m + 1) (W m) := by
  intro e
  have a1 := st_lo W (n := n) (m := i + 1) (W i) (by omega)
  have a2 := st_lo W (n := n) (m := m + 1) (W m) (by omega)
  have b1 := st_step W n i
  have b2 := st_step W n m
  have c1 := st_hi W n i (W i)
  have c2 := st_hi W n m (W m)
  rcases Nat.lt_trichotomy (W i) (W m) with h | h | h
  · have := pre_mono (cnI_nonneg W n) (show W i + 1 ≤ W m from h)
    omega
  · have d1 := cn_mono W (W m) (show i + 1 ≤ m from him)
    have d2 := cn_self W m
    rw [h] at e
    unfold st cnI at e
    omega
  · have := pre_mono (cnI_nonneg W n) (show W m + 1 ≤ W i from h)
    omega
theorem st_zero (W : Nat → Nat) (v : Nat) : st W 0 0 v = cnI W 0 v := by
  have : ∀ k, pre (cnI W 0) k = 0 := by
    intro k
    induction k with
    | zero => rfl
    | succ k ih => simp only [pre, ih]; simp [cnI, cn]
  unfold st; rw [this]; simp [cnI, cn]
theorem st_end (W : Nat → Nat) (n v : Nat) : st W n n v = pre (cnI W n) v := by unfold st; simp only [pre]; omega
theorem st_start (W : Nat → Nat) (n v : Nat) : st W n 0 v = pre (cnI W n) (v + 1) := by unfold st; simp [cnI, cn]
/-- A row of zeros into which the first i values of f have been copied. -/
def cpy (f : Nat → Int) (i : Nat) : Nat → Int := fun v => if v < i then f v else 0
theorem cpy_step (f : Nat → Int) (i j : Nat) : cpy f (i + 1) j = upd (cpy f i) i (f i) j := by
  unfold cpy upd
  by_cases h : j = i
  · subst h; simp
  · by_cases h2 : j < i
    · simp [h, h2, Nat.lt_succ_of_lt h2]
    · have : ¬ j < i + 1 := by omega
      simp [h, h2, this]
end Go.Proofs.Qxb6628496a

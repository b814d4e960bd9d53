/-
  THE PLAIN LAW of 'FnIsPlainStringByteByByte'.
-/
import Derived.Test.Qxb6629057aMath
namespace Go.Proofs.Qxb6629057a

/-! ### Keeping the bytes that may stay -/
/-- How many of the bytes at the places 1 .. m may stay. -/
def nk (F : Nat → Int) : Nat → Nat
  | 0 => 0
  | m + 1 => nk F m + if okB (F (m + 1)) = true then 1 else 0
/-- The row in which they are kept. -/
def kf (F : Nat → Int) : Nat → Nat → Int
  | 0 => fun _ => 0
  | m + 1 => if okB (F (m + 1)) = true then upd (kf F m) (nk F m) (F (m + 1)) else kf F m
theorem nk_le (F : Nat → Int) (m : Nat) : nk F m ≤ m := by
  induction m with
  | zero => exact Nat.le_refl _
  | succ m ih => simp only [nk]; split <;> omega
theorem nk_yes {F : Nat → Int} {m : Nat} (h : okB (F (m + 1)) = true) : nk F (m + 1) = nk F m + 1 := by simp [nk, h]
theorem nk_no {F : Nat → Int} {m : Nat} (h : okB (F (m + 1)) = false) : nk F (m + 1) = nk F m := by simp [nk, h]
theorem kf_yes {F : Nat → Int} {m : Nat} (h : okB (F (m + 1)) = true) : kf F (m + 1) = upd (kf F m) (nk F m) (F (m + 1)) := by simp [kf, h]
theorem kf_no {F : Nat → Int} {m : Nat} (h : okB (F (m + 1)) = false) : kf F (m + 1) = kf F m := by simp [kf, h]
/-- All that is kept may stay. -/
theorem kf_ok (F : Nat → Int) (m t : Nat) (ht : t < nk F m) : okB (kf F m t) = true := by
  induction m with
  | zero => simp [nk] at ht
  | succ m ih =>
    cases h : okB (F (m + 1)) with
    | true =>
      rw [kf_yes h]
      rw [nk_yes h] at ht
      by_cases e : t = nk F m
      · subst e; rw [upd_same]; exact h
      · rw [upd_other _ _ e]; exact ih (by omega)
    | false =>
      rw [kf_no h]
      rw [nk_no h] at ht
      exact ih ht
/-- Every byte was kept exactly when all may stay. -/
theorem nk_all (F : Nat → Int) (m : Nat) : (nk F m == m) = allOk F m := by
  induction m with
  | zero => rfl
  | succ m ih =>
    have hl := nk_le F m
    cases h : okB (F (m + 1)) with
    | true =>
      rw [nk_yes h, allOk, h, Bool.and_true, ← ih, Bool.eq_iff_iff]
      simp
    | false =>
      rw [nk_no h, allOk, h, Bool.and_false, beq_eq_false_iff_ne]
      omega
/-- The row q behind j rounds of its loop: a quote, j kept bytes, zeros. -/
def qf (K : Nat → Int) (j : Nat) : Nat → Int := fun t => if t = 0 then 34 else if t < j + 1 then K (t - 1) else 0
theorem qf_step (K : Nat → Int) (j t : Nat) : qf K (j + 1) t = upd (qf K j) (j + 1) (K j) t := by
  unfold qf upd
  by_cases h : t = j + 1
  · subst h; simp
  · by_cases h0 : t = 0
    · subst h0; simp
    · by_cases h1 : t < j + 1
      · have h2 : t < j + 1 + 1 := by omega
        simp [h, h0, h1, h2]
      · have h2 : ¬ t < j + 1 + 1 := by omega
        simp [h, h0, h1, h2]
theorem allOk_all {G : Nat → Int} {m : Nat} (h : ∀ t, t < m → okB (G (t + 1)) = true) : allOk G m = true := by
  induction m with
  | zero => rfl
  | succ m ih => rw [allOk, ih (fun t ht => h t (by omega)), h m (by omega)]; rfl
/-- The quoted kept bytes are plain. -/
theorem plain_qf (K : Nat → Int) (m : Nat) (h : ∀ t, t < m → okB (K t) = true) : plainB (m + 2) (upd (qf K m) (m + 1) 34) = true := by
  have e0 : upd (qf K m) (m + 1) 34 0 = 34 := by rw [upd_other _ _ (by omega)]; rfl
  have e1 : upd (qf K m) (m + 1) 34 (m + 2 - 1) = 34 := upd_same _ _ _
  have e2 : allOk (upd (qf K m) (m + 1) 34) (m + 2 - 2) = true := allOk_all (fun t ht => by
    rw [upd_other _ _ (by omega)]
    have : t + 1 < m + 1 := by omega
    simp only [qf, this, Nat.add_sub_cancel, if_true]
    exact h t (by omega))
  unfold plainB
  rw [e0, e1, e2]
  simp
/-- Two bytes. -/
def two (x y : Int) : Nat → Int := fun t => if t = 0 then x else y
theorem plain_two (x y : Int) : plainB 2 (two x y) = ((x == 34) && (y == 34)) := by simp [plainB, two, allOk]
theorem plain_parts (n : Nat) (F : Nat → Int) (h : 2 ≤ n) : plainB n F = ((F 0 == 34) && ((F (n - 1) == 34) && (nk F (n - 2) == n - 2))) := by
  rw [nk_all]; simp [plainB, h]
end Go.Proofs.Qxb6629057a

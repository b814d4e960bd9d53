/-
  THE PLAIN LAW OF 'of'; the guards of 'FnLowerRebasedAtLaterLocalTimeAgrees'.
-/
import Derived.Test.Qxb6629016aCalls
namespace Go.Proofs.Qxb6629016a
open Go.RowKit
set_option linter.unusedVariables false

/-! ### THE PLAIN LAW -/
/-- 'of' rounds up: it is the ceiling of d·e/10^6. -/
theorem ofv_ceil {e d : Int} (h0 : 0 ≤ d) : 1000000 * ofv e d - d * e ≥ 0 ∧ 1000000 * ofv e d - d * e < 1000000 := by
  unfold ofv
  have h : d * e = 1000000 * (d / 1000000 * e) + d % 1000000 * e := by
    have h1 : d = 1000000 * (d / 1000000) + d % 1000000 := by omega
    have h2 : (1000000 * (d / 1000000) + d % 1000000) * e = 1000000 * (d / 1000000 * e) + d % 1000000 * e := by
      rw [Int.add_mul, Int.mul_assoc]
    rw [← h1] at h2
    exact h2
  rw [h]
  generalize d / 1000000 * e = A
  generalize d % 1000000 * e = C
  omega

/-- Two spans one behind the other: rounding up twice is rounding up once, or one more. -/
theorem ofv_add {e a b : Int} (ha : 0 ≤ a) (hb : 0 ≤ b) : ofv e a + ofv e b - ofv e (a + b) = 0 ∨ ofv e a + ofv e b - ofv e (a + b) = 1 := by
  have h1 := ofv_ceil (e := e) ha
  have h2 := ofv_ceil (e := e) hb
  have h3 := ofv_ceil (e := e) (d := a + b) (by omega)
  have h4 : (a + b) * e = a * e + b * e := Int.add_mul _ _ _
  rw [h4] at h3
  generalize a * e = A at *
  generalize b * e = C at *
  omega
theorem ofv_zero_d (e : Int) : ofv e 0 = 0 := by simp [ofv]
theorem ofv_zero_e {d : Int} : ofv 0 d = 0 := by simp [ofv]

/-- zzWithin, as a plain test. -/
def wb (x : Int) : Bool := decide (-2305843009213693952 ≤ x) && decide (x ≤ 2305843009213693952)
theorem wb_true {x : Int} (h : wb x = true) : -2305843009213693952 ≤ x ∧ x ≤ 2305843009213693952 := by simpa [wb] using h
theorem wb_false {x : Int} (h : wb x = false) : x < -2305843009213693952 ∨ 2305843009213693952 < x := by
  simp only [wb, Bool.and_eq_false_iff, decide_eq_false_iff_not] at h; omega
theorem within_any (x : Int) (w : World) : Calls Try.prog 5 #[.int .i64 x] w fun e w' => e = .returned (.bool (wb x)) ∧ w' = w := by
  cases h : wb x with
  | true => exact within_yes x w (wb_true h).1 (wb_true h).2
  | false => exact within_no x w (wb_false h)

set_option maxHeartbeats 1000000 in
set_option maxRecDepth 100000 in
theorem rebased_early (s y l v t now e : Int) (w : World) (he : 0 ≤ e)
    (h : 1000000 ≤ e ∨ wb l = false ∨ wb v = false ∨ wb t = false ∨ wb now = false ∨ t < v ∨ now < t ∨ 2305843009213693952 < now - v) :
    Calls Try.prog 4 #[.int .i64 s, .int .i64 y, .int .i64 l, .int .i64 v, .int .i64 t, .int .i64 now, .int .u32 e] w fun r w' => r = .returned (.bool true) ∧ Grown w w' := by
  by_cases h1 : 1000000 ≤ e
  · clear h
    go_enter Try.func4, Try.ntmps4
    go_wp2_with (go_at_call 5; refine (within_any _ _).mono ?_; rintro r w ⟨rfl, rfl⟩)
    go_ret
    exact ⟨rfl, Grown.refl _⟩
  cases h2 : wb l with
  | false =>
    clear h
    go_enter Try.func4, Try.ntmps4
    go_wp2_with (go_at_call 5; refine (within_any _ _).mono ?_; rintro r w ⟨rfl, rfl⟩)
    go_ret
    exact ⟨rfl, Grown.refl _⟩
  | true =>
  cases h3 : wb v with
  | false =>
    clear h
    go_enter Try.func4, Try.ntmps4
    go_wp2_with (go_at_call 5; refine (within_any _ _).mono ?_; rintro r w ⟨rfl, rfl⟩)
    go_ret
    exact ⟨rfl, Grown.refl _⟩
  | true =>
  cases h4 : wb t with
  | false =>
    clear h
    go_enter Try.func4, Try.ntmps4
    go_wp2_with (go_at_call 5; refine (within_any _ _).mono ?_; rintro r w ⟨rfl, rfl⟩)
    go_ret
    exact ⟨rfl, Grown.refl _⟩
  | true =>
  cases h5 : wb now with
  | false =>
    clear h
    go_enter Try.func4, Try.ntmps4
    go_wp2_with (go_at_call 5; refine (within_any _ _).mono ?_; rintro r w ⟨rfl, rfl⟩)
    go_ret
    exact ⟨rfl, Grown.refl _⟩
  | true =>
  have b3 := wb_true h3
  have b5 := wb_true h5
  simp only [h2, h3, h4, h5] at h
  by_cases h6 : t < v
  · clear h
    go_enter Try.func4, Try.ntmps4
    go_wp2_with (go_at_call 5; refine (within_any _ _).mono ?_; rintro r w ⟨rfl, rfl⟩)
    go_ret
    exact ⟨rfl, Grown.refl _⟩
  by_cases h7 : now < t
  · clear h
    go_enter Try.func4, Try.ntmps4
    go_wp2_with (go_at_call 5; refine (within_any _ _).mono ?_; rintro r w ⟨rfl, rfl⟩)
    go_ret
    exact ⟨rfl, Grown.refl _⟩
  · have h8 : 2305843009213693952 < now - v := by simp at h; omega
    clear h
    go_enter Try.func4, Try.ntmps4
    go_wp2_with (go_at_call 5; refine (within_any _ _).mono ?_; rintro r w ⟨rfl, rfl⟩)
    go_ret
    exact ⟨rfl, Grown.refl _⟩
end Go.Proofs.Qxb6629016a

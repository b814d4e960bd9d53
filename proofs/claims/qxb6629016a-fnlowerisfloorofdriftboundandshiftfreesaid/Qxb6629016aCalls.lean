/-
  THE CALLEES' CONTRACTS: zzWithin, of, shrink, stretch, Lower.
-/
import Derived.Test.Qxb6629016aRows
import Derived.WalkKit
import Derived.WalkSpells
import Derived.WalkLawsBesides
import Derived.Deep.QuietTactic
import Derived.BigQuiet
namespace Go.Proofs.Qxb6629016a
open Go.RowKit
set_option linter.unusedVariables false

set_option maxHeartbeats 400000 in
theorem within_yes (x : Int) (w : World) (h1 : -2305843009213693952 ≤ x) (h2 : x ≤ 2305843009213693952) :
    Calls Try.prog 5 #[.int .i64 x] w fun e w' => e = .returned (.bool true) ∧ w' = w := by
  go_enter Try.func5, Try.ntmps5
  go_wp2
  go_ret
  exact ⟨rfl, rfl⟩

set_option maxHeartbeats 400000 in
theorem within_no (x : Int) (w : World) (h : x < -2305843009213693952 ∨ 2305843009213693952 < x) :
    Calls Try.prog 5 #[.int .i64 x] w fun e w' => e = .returned (.bool false) ∧ w' = w := by
  by_cases h1 : x < -2305843009213693952
  · clear h
    go_enter Try.func5, Try.ntmps5
    go_wp2
    go_ret
    exact ⟨rfl, rfl⟩
  · have h2 : decide (x ≤ 2305843009213693952) = false := decide_eq_false (by omega)
    clear h
    go_enter Try.func5, Try.ntmps5
    go_wp2
    go_ret
    exact ⟨rfl, rfl⟩

/-- What 'of' computes. -/
def ofv (e d : Int) : Int := d / 1000000 * e + (d % 1000000 * e + 1000000 - 1) / 1000000

/-- The bounds of the two products that 'of' forms. -/
theorem of_bounds {e d : Int} (h0 : 0 ≤ d) (h1 : d ≤ 2305843009213693952) (e0 : 0 ≤ e) (e1 : e < 1000000) :
    0 ≤ d / 1000000 * e ∧ d / 1000000 * e ≤ d / 1000000 * 999999 ∧ 0 ≤ d % 1000000 * e ∧ d % 1000000 * e ≤ d % 1000000 * 999999 := by
  have a0 : 0 ≤ d / 1000000 := by omega
  have b0 : 0 ≤ d % 1000000 := by omega
  exact ⟨Int.mul_nonneg a0 e0, Int.mul_le_mul_of_nonneg_left (by omega) a0, Int.mul_nonneg b0 e0, Int.mul_le_mul_of_nonneg_left (by omega) b0⟩

set_option maxHeartbeats 400000 in
theorem of10 (e d : Int) (w : World) (h0 : 0 ≤ d) (h1 : d ≤ 2305843009213693952) (e0 : 0 ≤ e) (e1 : e < 1000000) :
    Calls Try.prog 10 #[.int .u32 e, .int .i64 d] w fun r w' => r = .returned (.int .i64 (ofv e d)) ∧ w' = w := by
  obtain ⟨b1, b2, b3, b4⟩ := of_bounds h0 h1 e0 e1
  go_enter Try.func10, Try.ntmps10
  go_wp2
  go_ret
  exact ⟨rfl, rfl⟩

theorem ofv_bounds {e d : Int} (h0 : 0 ≤ d) (h1 : d ≤ 2305843009213693952) (e0 : 0 ≤ e) (e1 : e < 1000000) : 0 ≤ ofv e d ∧ ofv e d ≤ d := by
  obtain ⟨b1, b2, b3, b4⟩ := of_bounds h0 h1 e0 e1
  unfold ofv
  generalize d / 1000000 * e = A at *
  generalize d % 1000000 * e = C at *
  omega

set_option maxHeartbeats 400000 in
theorem shrink8 (e d : Int) (w : World) (h0 : 0 ≤ d) (h1 : d ≤ 2305843009213693952) (e0 : 0 ≤ e) (e1 : e < 1000000) :
    Calls Try.prog 8 #[.int .u32 e, .int .i64 d] w fun r w' => r = .returned (.int .i64 (d - ofv e d)) ∧ w' = w := by
  have hb := ofv_bounds h0 h1 e0 e1
  go_enter Try.func8, Try.ntmps8
  go_wp2_with (go_at_call 10; refine (of10 e d _ h0 h1 e0 e1).mono ?_; rintro r w ⟨rfl, rfl⟩)
  go_ret
  exact ⟨rfl, rfl⟩

set_option maxHeartbeats 400000 in
theorem stretch9 (e d : Int) (w : World) (h0 : 0 ≤ d) (h1 : d ≤ 2305843009213693952) (e0 : 0 ≤ e) (e1 : e < 1000000) :
    Calls Try.prog 9 #[.int .u32 e, .int .i64 d] w fun r w' => r = .returned (.int .i64 (d + ofv e d)) ∧ w' = w := by
  have hb := ofv_bounds h0 h1 e0 e1
  go_enter Try.func9, Try.ntmps9
  go_wp2_with (go_at_call 10; refine (of10 e d _ h0 h1 e0 e1).mono ?_; rintro r w ⟨rfl, rfl⟩)
  go_ret
  exact ⟨rfl, rfl⟩

set_option maxHeartbeats 1000000 in
/-- Lower from the reply on. -/
theorem lower_ge (s y l v now e : Int) (w : World) (h0 : v ≤ now) (h1 : now - v ≤ 2305843009213693952) (e0 : 0 ≤ e) (e1 : e < 1000000)
    (l0 : -4611686018427387904 ≤ l) (l1 : l ≤ 4611686018427387904) (hv : -9223372036854775808 ≤ v) (hn : now ≤ 9223372036854775807) :
    Calls Try.prog 6 #[.agg #[.int .i64 s, .int .i64 y, .int .i64 l, .int .i64 v], .int .i64 now, .int .u32 e] w fun r w' =>
      r = .returned (.int .i64 (l + (now - v - ofv e (now - v)))) ∧ ∃ n, w' = (w.alloc (.cells #[.int .i64 s, .int .i64 y, .int .i64 l, .int .i64 v] 25)).drewN n := by
  have hb := ofv_bounds (d := now - v) (by omega) h1 e0 e1
  go_enter Try.func6, Try.ntmps6
  go_wp2
  go_quiet ((go_at_call 8; exact Calls.quiet_of_same (shrink8 _ _ _ (by omega) h1 e0 e1)))
  go_wp2
  go_ret
  exact ⟨rfl, _, rfl⟩

set_option maxHeartbeats 1000000 in
/-- Lower ahead of the reply. -/
theorem lower_lt (s y l v now e : Int) (w : World) (h0 : now < v) (h1 : v - now ≤ 2305843009213693952) (e0 : 0 ≤ e) (e1 : e < 1000000)
    (l0 : -2305843009213693952 ≤ l) (l1 : l ≤ 2305843009213693952) (hv : v ≤ 9223372036854775807) (hn : -9223372036854775808 ≤ now) :
    Calls Try.prog 6 #[.agg #[.int .i64 s, .int .i64 y, .int .i64 l, .int .i64 v], .int .i64 now, .int .u32 e] w fun r w' =>
      r = .returned (.int .i64 (l - (v - now + ofv e (v - now)))) ∧ ∃ n, w' = (w.alloc (.cells #[.int .i64 s, .int .i64 y, .int .i64 l, .int .i64 v] 25)).drewN n := by
  have hb := ofv_bounds (d := v - now) (by omega) h1 e0 e1
  go_enter Try.func6, Try.ntmps6
  go_wp2
  go_quiet ((go_at_call 9; exact Calls.quiet_of_same (stretch9 _ _ _ (by omega) h1 e0 e1)))
  go_wp2
  go_ret
  exact ⟨rfl, _, rfl⟩
end Go.Proofs.Qxb6629016a

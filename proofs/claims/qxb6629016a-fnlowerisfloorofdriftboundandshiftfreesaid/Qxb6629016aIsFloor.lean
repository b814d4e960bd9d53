/-
  THE PLAIN LAW OF zzIsFloor, and her contract.
-/
import Derived.Test.Qxb6629016aRebased
namespace Go.Proofs.Qxb6629016a
open Go.RowKit
set_option linter.unusedVariables false

set_option maxHeartbeats 1000000 in
theorem floor_pos (l r q c : Int) (w : World) (hq : 0 ≤ q) (hq1 : q ≤ 2305843009213693952)
    (hr0 : -9223372036854775808 ≤ r - l) (hr1 : r - l ≤ 9223372036854775807)
    (a0 : 0 ≤ q / 1000000 * c) (a1 : q / 1000000 * c ≤ 9223372036854775807)
    (k0 : -4194304 ≤ q / 1000000 * c - (r - l)) (k1 : q / 1000000 * c - (r - l) ≤ 4194304)
    (b0 : 0 ≤ q % 1000000 * c) (b1 : q % 1000000 * c ≤ 4000000000000)
    (x0 : 0 ≤ 1000000 * (q / 1000000 * c - (r - l)) + q % 1000000 * c) (x1 : 1000000 * (q / 1000000 * c - (r - l)) + q % 1000000 * c < 1000000) :
    Calls Try.prog 7 #[.int .i64 l, .int .i64 r, .int .i64 q, .int .i64 c] w fun e w' => e = .returned (.bool true) ∧ w' = w := by
  go_enter Try.func7, Try.ntmps7
  go_wp2
  go_ret
  exact ⟨rfl, rfl⟩

set_option maxHeartbeats 1000000 in
theorem floor_neg (l r q c a b : Int) (w : World) (hq : q < 0) (hq1 : -2305843009213693952 ≤ q) (ha : q.tdiv 1000000 = a) (hb : q.tmod 1000000 = b)
    (ha0 : -2305843009214 ≤ a) (ha1 : a ≤ 0) (hb0 : -1000000 ≤ b) (hb1 : b ≤ 0)
    (hr0 : -9223372036854775808 ≤ r - l) (hr1 : r - l ≤ 9223372036854775807)
    (a0 : a * c ≤ 0) (a1 : -9223372036854775808 ≤ a * c)
    (k0 : -4194304 ≤ a * c - (r - l)) (k1 : a * c - (r - l) ≤ 4194304)
    (b0 : b * c ≤ 0) (b1 : -4000000000000 ≤ b * c)
    (x0 : 0 ≤ 1000000 * (a * c - (r - l)) + b * c) (x1 : 1000000 * (a * c - (r - l)) + b * c < 1000000) :
    Calls Try.prog 7 #[.int .i64 l, .int .i64 r, .int .i64 q, .int .i64 c] w fun e w' => e = .returned (.bool true) ∧ w' = w := by
  go_enter Try.func7, Try.ntmps7
  go_wp2
  go_ret
  exact ⟨rfl, rfl⟩

/-- The products' bounds and the remainder's place, from the reply on. -/
theorem law_pos {e q : Int} (e0 : 0 ≤ e) (e1 : e < 1000000) (hq : 0 ≤ q) (hq1 : q ≤ 2305843009213693952) :
    0 ≤ q / 1000000 * (1000000 - e) ∧ q / 1000000 * (1000000 - e) ≤ 9223372036854775807 ∧
    -4194304 ≤ q / 1000000 * (1000000 - e) - (q - ofv e q) ∧ q / 1000000 * (1000000 - e) - (q - ofv e q) ≤ 4194304 ∧
    0 ≤ q % 1000000 * (1000000 - e) ∧ q % 1000000 * (1000000 - e) ≤ 4000000000000 ∧
    0 ≤ 1000000 * (q / 1000000 * (1000000 - e) - (q - ofv e q)) + q % 1000000 * (1000000 - e) ∧ 1000000 * (q / 1000000 * (1000000 - e) - (q - ofv e q)) + q % 1000000 * (1000000 - e) < 1000000 := by
  obtain ⟨b1, b2, b3, b4⟩ := of_bounds hq hq1 e0 e1
  unfold ofv
  rw [Int.mul_sub, Int.mul_sub]
  generalize q / 1000000 * e = A at *
  generalize q % 1000000 * e = C at *
  omega
/-- The same ahead of the reply: q = -d. -/
theorem law_neg {e d : Int} (e0 : 0 ≤ e) (e1 : e < 1000000) (hq : 0 ≤ d) (hq1 : d ≤ 2305843009213693952) :
    -(d / 1000000) * (1000000 + e) ≤ 0 ∧ -9223372036854775808 ≤ -(d / 1000000) * (1000000 + e) ∧
    -4194304 ≤ -(d / 1000000) * (1000000 + e) + (d + ofv e d) ∧ -(d / 1000000) * (1000000 + e) + (d + ofv e d) ≤ 4194304 ∧
    -(d % 1000000) * (1000000 + e) ≤ 0 ∧ -4000000000000 ≤ -(d % 1000000) * (1000000 + e) ∧
    0 ≤ 1000000 * (-(d / 1000000) * (1000000 + e) + (d + ofv e d)) + -(d % 1000000) * (1000000 + e) ∧ 1000000 * (-(d / 1000000) * (1000000 + e) + (d + ofv e d)) + -(d % 1000000) * (1000000 + e) < 1000000 := by
  obtain ⟨b1, b2, b3, b4⟩ := of_bounds hq hq1 e0 e1
  unfold ofv
  rw [Int.neg_mul, Int.neg_mul, Int.mul_add, Int.mul_add]
  generalize d / 1000000 * e = A at *
  generalize d % 1000000 * e = C at *
  omega

/-- zzIsFloor says yes of Lower from the reply on. -/
theorem isfloor_ge (l v now e : Int) (w : World) (e0 : 0 ≤ e) (e1 : e < 1000000) (h0 : v ≤ now) (h1 : now - v ≤ 2305843009213693952) :
    Calls Try.prog 7 #[.int .i64 l, .int .i64 (l + (now - v - ofv e (now - v))), .int .i64 (now - v), .int .i64 (1000000 - e)] w fun e w' => e = .returned (.bool true) ∧ w' = w := by
  obtain ⟨c1, c2, c3, c4, c5, c6, c7, c8⟩ := law_pos (q := now - v) e0 e1 (by omega) h1
  have hb := ofv_bounds (d := now - v) (by omega) h1 e0 e1
  have er : l + (now - v - ofv e (now - v)) - l = now - v - ofv e (now - v) := by omega
  exact floor_pos l _ (now - v) (1000000 - e) w (by omega) h1 (by rw [er]; omega) (by rw [er]; omega) c1 c2 (by rw [er]; exact c3) (by rw [er]; exact c4) c5 c6 (by rw [er]; exact c7) (by rw [er]; exact c8)

/-- zzIsFloor says yes of Lower ahead of the reply. -/
theorem isfloor_lt (l v now e : Int) (w : World) (e0 : 0 ≤ e) (e1 : e < 1000000) (h0 : now < v) (h1 : v - now ≤ 2305843009213693952) :
    Calls Try.prog 7 #[.int .i64 l, .int .i64 (l - (v - now + ofv e (v - now))), .int .i64 (now - v), .int .i64 (1000000 + e)] w fun e w' => e = .returned (.bool true) ∧ w' = w := by
  obtain ⟨c1, c2, c3, c4, c5, c6, c7, c8⟩ := law_neg (d := v - now) e0 e1 (by omega) h1
  have hb := ofv_bounds (d := v - now) (by omega) h1 e0 e1
  have er : ∀ x, x - (l - (v - now + ofv e (v - now)) - l) = x + (v - now + ofv e (v - now)) := by intro x; omega
  have ha : (now - v).tdiv 1000000 = -((v - now) / 1000000) := by
    rw [show now - v = -(v - now) from by omega, Int.neg_tdiv, Int.tdiv_eq_ediv_of_nonneg (by omega)]
  have hm : (now - v).tmod 1000000 = -((v - now) % 1000000) := by
    rw [show now - v = -(v - now) from by omega, Int.neg_tmod, Int.tmod_eq_emod_of_nonneg (by omega)]
  exact floor_neg l _ (now - v) (1000000 + e) _ _ w (by omega) (by omega) ha hm (by omega) (by omega) (by omega) (by omega) (by omega) (by omega) c1 c2 (by rw [er]; exact c3) (by rw [er]; exact c4) c5 c6 (by rw [er]; exact c7) (by rw [er]; exact c8)

end Go.Proofs.Qxb6629016a

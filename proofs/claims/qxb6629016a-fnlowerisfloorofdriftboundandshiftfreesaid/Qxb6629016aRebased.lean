/-
  THE WALK of 'FnLowerRebasedAtLaterLocalTimeAgrees'.
-/
import Derived.Test.Qxb6629016aLaw
namespace Go.Proofs.Qxb6629016a
open Go.RowKit
set_option linter.unusedVariables false

/-- Lower at the reply itself. -/
theorem lower_at (s y l v e : Int) (w : World) (e0 : 0 ≤ e) (e1 : e < 1000000)
    (l0 : -4611686018427387904 ≤ l) (l1 : l ≤ 4611686018427387904) (hv : -9223372036854775808 ≤ v) (hn : v ≤ 9223372036854775807) :
    Calls Try.prog 6 #[.agg #[.int .i64 s, .int .i64 y, .int .i64 l, .int .i64 v], .int .i64 v, .int .u32 e] w fun r w' =>
      r = .returned (.int .i64 l) ∧ ∃ n, w' = (w.alloc (.cells #[.int .i64 s, .int .i64 y, .int .i64 l, .int .i64 v] 25)).drewN n := by
  refine (lower_ge s y l v v e w (Int.le_refl _) (by omega) e0 e1 l0 l1 hv hn).mono ?_
  rintro r w' ⟨rfl, h⟩
  refine ⟨?_, h⟩
  rw [Int.sub_self, ofv_zero_d]
  simp
/-- Lower with no drift. -/
theorem lower_still (s y l v now : Int) (w : World) (h0 : v ≤ now) (h1 : now - v ≤ 2305843009213693952)
    (l0 : -4611686018427387904 ≤ l) (l1 : l ≤ 4611686018427387904) (hv : -9223372036854775808 ≤ v) (hn : now ≤ 9223372036854775807) :
    Calls Try.prog 6 #[.agg #[.int .i64 s, .int .i64 y, .int .i64 l, .int .i64 v], .int .i64 now, .int .u32 0] w fun r w' =>
      r = .returned (.int .i64 (l + (now - v))) ∧ ∃ n, w' = (w.alloc (.cells #[.int .i64 s, .int .i64 y, .int .i64 l, .int .i64 v] 25)).drewN n := by
  refine (lower_ge s y l v now 0 w h0 h1 (by omega) (by omega) l0 l1 hv hn).mono ?_
  rintro r w' ⟨rfl, h⟩
  refine ⟨?_, h⟩
  rw [ofv_zero_e]
  simp

theorem grown_drewN {a w : World} (h : Grown a w) (n : Nat) : Grown a (w.drewN n) := h

set_option maxHeartbeats 2000000 in
set_option maxRecDepth 100000 in
theorem rebased_main (s y l v t now e : Int) (w : World) (he : 0 ≤ e) (he1 : e < 1000000) (h2 : wb l = true) (h3 : wb v = true) (h4 : wb t = true) (h5 : wb now = true)
    (h6 : v ≤ t) (h7 : t ≤ now) (h8 : now - v ≤ 2305843009213693952) :
    Calls Try.prog 4 #[.int .i64 s, .int .i64 y, .int .i64 l, .int .i64 v, .int .i64 t, .int .i64 now, .int .u32 e] w fun r w' => r = .returned (.bool true) ∧ Grown w w' := by
  have b2 := wb_true h2
  have b3 := wb_true h3
  have b4 := wb_true h4
  have b5 := wb_true h5
  go_enter Try.func4, Try.ntmps4
  go_wp2_with (go_at_call 5; refine (within_any _ _).mono ?_; rintro r w ⟨rfl, rfl⟩)
  refine (lower_ge s y l v now e _ (by omega) h8 he he1 (by omega) (by omega) (by omega) (by omega)).mono ?_
  rintro r w1 ⟨rfl, n1, rfl⟩
  have f1 := ofv_bounds (e := e) (d := now - v) (by omega) h8 he he1
  have f2 := ofv_bounds (e := e) (d := t - v) (by omega) (by omega) he he1
  have f3 := ofv_bounds (e := e) (d := now - t) (by omega) (by omega) he he1
  have f4 := ofv_add (e := e) (a := t - v) (b := now - t) (by omega) (by omega)
  rw [show t - v + (now - t) = now - v from by omega] at f4
  obtain ⟨A, hA⟩ : ∃ A, l + (now - v - ofv e (now - v)) = A := ⟨_, rfl⟩
  obtain ⟨M, hM⟩ : ∃ M, l + (t - v - ofv e (t - v)) = M := ⟨_, rfl⟩
  obtain ⟨C, hC⟩ : ∃ C, M + (now - t - ofv e (now - t)) = C := ⟨_, rfl⟩
  have g1 : 0 ≤ A - C := by omega
  have g2 : A - C ≤ 1 := by omega
  have g3 : A ≤ l + (now - v) := by omega
  have g4 : l ≤ A := by omega
  have g5 : l ≤ M ∧ M ≤ l + (now - v) := by omega
  have HM : Hid (l + (t - v - ofv e (t - v)) = M) := hM
  have HC : Hid (M + (now - t - ofv e (now - t)) = C) := hC
  rw [hA]
  clear hA hM hC f1 f2 f3 f4 h2 h3 h4 h5
  go_wp2_with fail
  refine (lower_ge s y l v t e _ (by omega) (by omega) he he1 (by omega) (by omega) (by omega) (by omega)).mono ?_
  rintro r w2 ⟨rfl, n2, rfl⟩
  rw [HM.out]
  go_wp2_with fail
  refine (lower_ge t M M t now e _ (by omega) (by omega) he he1 (by omega) (by omega) (by omega) (by omega)).mono ?_
  rintro r w3 ⟨rfl, n3, rfl⟩
  rw [HC.out]
  go_wp2_with fail
  refine (lower_at s y l v e _ he he1 (by omega) (by omega) (by omega) (by omega)).mono ?_
  rintro r w4 ⟨rfl, n4, rfl⟩
  go_wp2_with fail
  refine (lower_still s y l v now _ (by omega) (by omega) (by omega) (by omega) (by omega) (by omega)).mono ?_
  rintro r w5 ⟨rfl, n5, rfl⟩
  by_cases hd : A - C = 0
  · have hd' : (A - C == 0) = true := by rw [hd]; rfl
    have HD : Hid (A - C = 0) := hd
    clear hd
    go_wp2
    go_ret
    exact ⟨rfl, by repeat (first | exact Grown.refl _ | apply grown_drewN | apply Grown.alloc)⟩
  · have hd' : (A - C == 0) = false := by simpa using hd
    have hd2 : (A - C == 1) = true := by rw [beq_iff_eq]; omega
    clear hd
    go_wp2
    go_ret
    exact ⟨rfl, by repeat (first | exact Grown.refl _ | apply grown_drewN | apply Grown.alloc)⟩
end Go.Proofs.Qxb6629016a

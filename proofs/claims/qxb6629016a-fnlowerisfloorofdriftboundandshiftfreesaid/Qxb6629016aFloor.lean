/-
  THE WALK of 'FnLowerIsFloorOfDriftBoundAndShiftFree'.
-/
import Derived.Test.Qxb6629016aIsFloor
namespace Go.Proofs.Qxb6629016a
open Go.RowKit
set_option linter.unusedVariables false

set_option maxHeartbeats 2000000 in
set_option maxRecDepth 100000 in
theorem floor_early (s y l v now e k : Int) (w : World) (he : 0 ≤ e)
    (h : 1000000 ≤ e ∨ wb l = false ∨ wb v = false ∨ wb now = false ∨ wb k = false ∨ now - v < -2305843009213693952 ∨ 2305843009213693952 < now - v ∨ wb (l + k) = false ∨ wb (v + k) = false ∨ wb (now + k) = false) :
    Calls Try.prog 3 #[.int .i64 s, .int .i64 y, .int .i64 l, .int .i64 v, .int .i64 now, .int .u32 e, .int .i64 k] w fun r w' => r = .returned (.bool true) ∧ Grown w w' := by
  by_cases h1 : 1000000 ≤ e
  · clear h
    go_enter Try.func3, Try.ntmps3
    go_wp2_with (go_at_call 5; refine (within_any _ _).mono ?_; rintro r w ⟨rfl, rfl⟩)
    go_ret
    exact ⟨rfl, Grown.refl _⟩
  cases h2 : wb l with
  | false =>
    clear h
    go_enter Try.func3, Try.ntmps3
    go_wp2_with (go_at_call 5; refine (within_any _ _).mono ?_; rintro r w ⟨rfl, rfl⟩)
    go_ret
    exact ⟨rfl, Grown.refl _⟩
  | true =>
  cases h3 : wb v with
  | false =>
    clear h
    go_enter Try.func3, Try.ntmps3
    go_wp2_with (go_at_call 5; refine (within_any _ _).mono ?_; rintro r w ⟨rfl, rfl⟩)
    go_ret
    exact ⟨rfl, Grown.refl _⟩
  | true =>
  cases h4 : wb now with
  | false =>
    clear h
    go_enter Try.func3, Try.ntmps3
    go_wp2_with (go_at_call 5; refine (within_any _ _).mono ?_; rintro r w ⟨rfl, rfl⟩)
    go_ret
    exact ⟨rfl, Grown.refl _⟩
  | true =>
  cases h5 : wb k with
  | false =>
    clear h
    go_enter Try.func3, Try.ntmps3
    go_wp2_with (go_at_call 5; refine (within_any _ _).mono ?_; rintro r w ⟨rfl, rfl⟩)
    go_ret
    exact ⟨rfl, Grown.refl _⟩
  | true =>
  have b2 := wb_true h2
  have b3 := wb_true h3
  have b4 := wb_true h4
  have b5 := wb_true h5
  simp only [h2, h3, h4, h5] at h
  by_cases h6 : now - v < -2305843009213693952
  · clear h
    go_enter Try.func3, Try.ntmps3
    go_wp2_with (go_at_call 5; refine (within_any _ _).mono ?_; rintro r w ⟨rfl, rfl⟩)
    go_ret
    exact ⟨rfl, Grown.refl _⟩
  by_cases h7 : 2305843009213693952 < now - v
  · clear h
    go_enter Try.func3, Try.ntmps3
    go_wp2_with (go_at_call 5; refine (within_any _ _).mono ?_; rintro r w ⟨rfl, rfl⟩)
    go_ret
    exact ⟨rfl, Grown.refl _⟩
  cases h8 : wb (l + k) with
  | false =>
    clear h
    go_enter Try.func3, Try.ntmps3
    go_wp2_with (go_at_call 5; refine (within_any _ _).mono ?_; rintro r w ⟨rfl, rfl⟩)
    go_ret
    exact ⟨rfl, Grown.refl _⟩
  | true =>
  cases h9 : wb (v + k) with
  | false =>
    clear h
    go_enter Try.func3, Try.ntmps3
    go_wp2_with (go_at_call 5; refine (within_any _ _).mono ?_; rintro r w ⟨rfl, rfl⟩)
    go_ret
    exact ⟨rfl, Grown.refl _⟩
  | true =>
  have h10 : wb (now + k) = false := by
    simp only [h8, h9] at h
    simp at h
    rcases h with h | h | h | h
    · omega
    · omega
    · omega
    · exact h
  clear h
  go_enter Try.func3, Try.ntmps3
  go_wp2_with (go_at_call 5; refine (within_any _ _).mono ?_; rintro r w ⟨rfl, rfl⟩)
  go_ret
  exact ⟨rfl, Grown.refl _⟩

set_option maxHeartbeats 4000000 in
set_option maxRecDepth 100000 in
theorem floor_main (s y l v now e k : Int) (w : World) (he : 0 ≤ e) (he1 : e < 1000000) (h2 : wb l = true) (h3 : wb v = true) (h4 : wb now = true) (h5 : wb k = true)
    (h6 : -2305843009213693952 ≤ now - v) (h7 : now - v ≤ 2305843009213693952) (h8 : wb (l + k) = true) (h9 : wb (v + k) = true) (h10 : wb (now + k) = true) :
    Calls Try.prog 3 #[.int .i64 s, .int .i64 y, .int .i64 l, .int .i64 v, .int .i64 now, .int .u32 e, .int .i64 k] w fun r w' => r = .returned (.bool true) ∧ Grown w w' := by
  have b2 := wb_true h2
  have b3 := wb_true h3
  have b4 := wb_true h4
  have b5 := wb_true h5
  have b8 := wb_true h8
  have b9 := wb_true h9
  have b10 := wb_true h10
  by_cases hc : v ≤ now
  · go_enter Try.func3, Try.ntmps3
    go_wp2_with (go_at_call 5; refine (within_any _ _).mono ?_; rintro r w ⟨rfl, rfl⟩)
    refine (lower_ge s y l v now e _ (by omega) h7 he he1 (by omega) (by omega) (by omega) (by omega)).mono ?_
    rintro r w1 ⟨rfl, n1, rfl⟩
    have hb := ofv_bounds (d := now - v) (by omega) h7 he he1
    have HF := isfloor_ge l v now e
    obtain ⟨A, hA⟩ : ∃ A, l + (now - v - ofv e (now - v)) = A := ⟨_, rfl⟩
    have HK : Hid (l + k + (now + k - (v + k) - ofv e (now + k - (v + k))) = A + k) := by
      show _ = _
      rw [show now + k - (v + k) = now - v from by omega]; omega
    have g1 : -4611686018427387904 ≤ A ∧ A ≤ 4611686018427387904 := by omega
    rw [hA] at HF ⊢
    have HF' : Hid (∀ w, 0 ≤ e → e < 1000000 → v ≤ now → now - v ≤ 2305843009213693952 → Calls Try.prog 7 #[.int .i64 l, .int .i64 A, .int .i64 (now - v), .int .i64 (1000000 - e)] w fun e w' => e = .returned (.bool true) ∧ w' = w) := HF
    clear hA HF hb
    go_wp2_with fail
    refine (lower_ge _ _ (l + k) (v + k) (now + k) e _ (by omega) (by omega) he he1 (by omega) (by omega) (by omega) (by omega)).mono ?_
    rintro r w2 ⟨rfl, n2, rfl⟩
    rw [HK.out]
    go_wp2_with fail
    refine (HF'.out _ he he1 hc h7).mono ?_
    rintro r w3 ⟨rfl, rfl⟩
    go_wp2
    go_ret
    exact ⟨rfl, by repeat (first | exact Grown.refl _ | apply grown_drewN | apply Grown.alloc)⟩
  · go_enter Try.func3, Try.ntmps3
    go_wp2_with (go_at_call 5; refine (within_any _ _).mono ?_; rintro r w ⟨rfl, rfl⟩)
    refine (lower_lt s y l v now e _ (by omega) (by omega) he he1 (by omega) (by omega) (by omega) (by omega)).mono ?_
    rintro r w1 ⟨rfl, n1, rfl⟩
    have hb := ofv_bounds (d := v - now) (by omega) (by omega) he he1
    have HF := isfloor_lt l v now e
    obtain ⟨A, hA⟩ : ∃ A, l - (v - now + ofv e (v - now)) = A := ⟨_, rfl⟩
    have HK : Hid (l + k - (v + k - (now + k) + ofv e (v + k - (now + k))) = A + k) := by
      show _ = _
      rw [show v + k - (now + k) = v - now from by omega]; omega
    have g1 : -6917529027641081856 ≤ A ∧ A ≤ 2305843009213693952 := by omega
    have g2 : -9223372036854775808 ≤ A + k ∧ A + k ≤ 9223372036854775807 := by omega
    rw [hA] at HF ⊢
    have HF' : Hid (∀ w, 0 ≤ e → e < 1000000 → now < v → v - now ≤ 2305843009213693952 → Calls Try.prog 7 #[.int .i64 l, .int .i64 A, .int .i64 (now - v), .int .i64 (1000000 + e)] w fun e w' => e = .returned (.bool true) ∧ w' = w) := HF
    clear hA HF hb
    go_wp2_with fail
    refine (lower_lt _ _ (l + k) (v + k) (now + k) e _ (by omega) (by omega) he he1 (by omega) (by omega) (by omega) (by omega)).mono ?_
    rintro r w2 ⟨rfl, n2, rfl⟩
    rw [HK.out]
    go_wp2_with fail
    refine (HF'.out _ he he1 (by omega) (by omega)).mono ?_
    rintro r w3 ⟨rfl, rfl⟩
    go_wp2
    go_ret
    exact ⟨rfl, by repeat (first | exact Grown.refl _ | apply grown_drewN | apply Grown.alloc)⟩
end Go.Proofs.Qxb6629016a

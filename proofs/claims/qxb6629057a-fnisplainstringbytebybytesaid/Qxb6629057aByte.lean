/-
  THE WALK of 'FnIsPlainStringByteByByte'.
-/
import Derived.Test.Qxb6629057aMath2
import Derived.Test.Qxb6629057aInsert
namespace Go.Proofs.Qxb6629057a
open Go.RowKit
set_option linter.unusedVariables false

set_option maxHeartbeats 1000000 in
set_option maxRecDepth 100000 in
theorem byte_early (a : Option Addr) (n c : Nat) (w : World) (h : 1048576 < n) :
    Calls Try.prog 4 #[.slice a n c] w fun e w' => e = .returned (.bool true) ∧ Below w.heap.size w w' := by
  go_enter Try.func4, Try.ntmps4
  go_wp2_with (go_at_call 7; refine (bytes7_no a n c _ h).mono ?_; rintro e w ⟨rfl, rfl⟩)
  go_ret
  exact ⟨rfl, Below.refl _ _⟩

set_option maxHeartbeats 4000000 in
set_option maxRecDepth 100000 in
theorem byte_main (x : Addr) (n c : Nat) (F : Nat → Int) (w : World) (hI : Inp .u8 w (some x) n F) (hn : n ≤ 1048576) (hc : n ≤ c) :
    Calls Try.prog 4 #[.slice (some x) n c] w fun e w' => e = .returned (.bool true) ∧ Below w.heap.size w w' := by
  obtain ⟨i0, hi, hz0, hz1, hz2⟩ := info_parts info5
  have q : ∀ (w : World) (a : Option Addr) (n c n' c' : Nat), (binOp .neq 22 (.slice a n c) (.slice none n' c')).run Try.prog w = .ok (.bool (!a.isNone)) w := fun w a n c n' c' => run_neq_slice_nil_any w _ _ a n c n' c' Try.underlying22
  go_enter Try.func4, Try.ntmps4
  go_wp2_with (first | (go_at_call 7; refine (bytes7_yes _ n c _ (by omega)).mono ?_; rintro e w ⟨rfl, rfl⟩) | (at_make; refine wpList_make_arr _ rfl _ _ 22 rfl 5 i0 .u8 Try.underlying22 hi hz0 hz1 .i64 .i64 _ _ n rfl rfl rfl rfl (by omega) (by omega) ?_))
  intro w0 hK0 hs0 hA0 hR0
  clear q
  obtain ⟨B, hB⟩ : ∃ B, w.heap.size = B := ⟨_, rfl⟩
  rw [hB] at hs0 hA0 hR0 ⊢
  have HB : Hid (w.heap.size = B) := hB
  have HS0 : Hid (w0.heap.size = B + 1) := hs0
  have HR0 : Hid (Rw w0 B n) := hR0
  clear hB hs0 hA0 hR0
  obtain ⟨w1, hrun, hK1, hs1, hD1⟩ := run_copy_arr w0 22 3 5 Try.underlying22 size5 .u8 B n n c _ F HR0.out (hI.below (Keep.below (Below.refl _ _) hK0 (Nat.le_refl _) (fun b hb => by cases hb)))
  have HS1 : Hid (w1.heap.size = B + 1) := by show w1.heap.size = B + 1; rw [hs1]; exact HS0.out
  have hb1 : Below B w w1 := hK1.below (hK0.below (Below.refl _ _) (by rw [HB.out]; exact Nat.le_refl _) (fun b hb => by cases hb)) (by have := HS0.out; omega) (fun b hb => by simp at hb; omega)
  clear hs1 hK1 hK0 hI
  go_wp2_with (at_make; refine wpList_make_arr _ rfl _ _ 22 rfl 5 i0 .u8 Try.underlying22 hi hz0 hz1 .i64 .i64 _ _ 3 rfl rfl rfl rfl (by omega) (by omega) ?_)
  intro w2 hK2 hs2 hA2 hR2
  rw [HS1.out] at hs2 hA2 ⊢
  have HS2 : Hid (w2.heap.size = B + 2) := hs2
  have hb2 : Below B w w2 := hK2.below hb1 (by have := HS1.out; omega) (fun b hb => by cases hb)
  have hD2 : Arr .u8 w2 B n F := hD1.keep hK2 (by have := HS1.out; omega) (by simp)
  have u0 := hA2.cell (j := 0) (by omega)
  have u2 := hA2.cell (j := 2) (by omega)
  have v0 := hA2.free (j := 0) (by omega)
  have v2 := hA2.free (j := 2) (by omega)
  clear hrun hs2 hK2 hR2 hD1 hb1
  go_wp2_with (at_make; refine wpList_make_arr _ rfl _ _ 22 rfl 5 i0 .u8 Try.underlying22 hi hz0 hz1 .i64 .i64 _ _ n rfl rfl rfl rfl (by omega) (by omega) ?_)
  intro w3 hK3 hs3 hA3 hR3
  rw [HS2.out] at hs3 hA3 ⊢
  have HS3 : Hid (w3.heap.size = B + 3) := hs3
  have hO2 : Arr .u8 ((w2.setCell ⟨B + 1, 0, none⟩ (.int .u8 34)).setCell ⟨B + 1, 2, none⟩ (.int .u8 34)) (B + 1) 3 (one 0) := ((hA2.set (i := 0) (by omega) 34).set (i := 2) (by omega) 34).congr (fun t ht => by
    obtain rfl | rfl | rfl : t = 0 ∨ t = 1 ∨ t = 2 := by omega
    · rfl
    · rfl
    · rfl)
  have hD2' : Arr .u8 ((w2.setCell ⟨B + 1, 0, none⟩ (.int .u8 34)).setCell ⟨B + 1, 2, none⟩ (.int .u8 34)) B n F := (hD2.other (by show B + 1 ≠ B; omega) _).other (by show B + 1 ≠ B; omega) _
  have hb2' : Below B w ((w2.setCell ⟨B + 1, 0, none⟩ (.int .u8 34)).setCell ⟨B + 1, 2, none⟩ (.int .u8 34)) := (hb2.setCell (by show B ≤ B + 1; omega) _).setCell (by show B ≤ B + 1; omega) _
  have hO3 : Arr .u8 w3 (B + 1) 3 (one 0) := hO2.keep hK3 (by have := HS2.out; simp; omega) (by simp)
  have hD3 : Arr .u8 w3 B n F := hD2'.keep hK3 (by have := HS2.out; simp; omega) (by simp)
  have hb3 : Below B w w3 := hK3.below hb2' (by have := HS2.out; simp; omega) (fun b hb => by cases hb)
  clear u0 u2 v0 v2 hA2 hD2 hb2 hO2 hD2' hb2' hK3 hs3 hR3
  go_wp2
  go_loopw [6, 7] (fun kv i wr => ∃ (m : Nat) (y : Int), (m = 0 ∨ m + 2 ≤ n) ∧ i = .int .i64 ((m : Int) + 1) ∧ kv = .int .i64 (nk F m : Nat) ∧ Arr .u8 wr (B + 1) 3 (one y) ∧ Arr .u8 wr (B + 2) n (kf F m) ∧ Arr .u8 wr B n F ∧ Below B w wr ∧ wr.heap.size = B + 3) (fun _ i _ => n - (intOf i).toNat)
  case atStart => exact ⟨0, 0, .inl rfl, rfl, rfl, hO3, hA3, hD3, hb3, HS3.out⟩
  case round =>
    obtain ⟨m, y, hm, rfl, rfl, hO, hA, hD, hb, hs⟩ := hrel
    have HSr : Hid (wr.heap.size = B + 3) := hs
    clear hs hO3 hA3 hD3 hb3
    have hkl := nk_le F m
    by_cases hmn : m + 2 < n
    · have u1 := hO.cell (j := 1) (by omega)
      have v1 := hO.free (j := 1) (by omega)
      have ud := hD.cell (j := m + 1) (by omega)
      have uk := hA.cell (j := nk F m) (by omega)
      have vk := hA.free (j := nk F m) (by omega)
      have hm2 : m ≤ 1048576 := by omega
      clear hm
      have tO := (hO.set (i := 1) (by omega) (F (m + 1))).congr (g := one (F (m + 1))) (fun t _ => one_upd _ _ _)
      have tA := hA.other (p := ⟨B + 1, 1, none⟩) (by show B + 1 ≠ B + 2; omega) (.int .u8 (F (m + 1)))
      have tD := hD.other (p := ⟨B + 1, 1, none⟩) (by show B + 1 ≠ B; omega) (.int .u8 (F (m + 1)))
      have tb : Below B w (wr.setCell ⟨B + 1, 1, none⟩ (.int .u8 (F (m + 1)))) := hb.setCell (by show B ≤ B + 1; omega) _
      have hxx : (wr.setCell ⟨B + 1, 1, none⟩ (.int .u8 (F (m + 1)))).cell? ⟨B + 2, nk F m, none⟩ = some (.int .u8 (kf F m (nk F m))) := tA.cell (by omega)
      cases ho : okB (F (m + 1)) with
      | true =>
        have HK : Hid (nk F (m + 1) = nk F m + 1) := nk_yes ho
        have HPO : Hid (plainB 3 (one (F (m + 1))) = true) := by rw [Hid, plain_one]; exact ho
        have rO := tO.other (p := ⟨B + 2, nk F m, none⟩) (by show B + 2 ≠ B + 1; omega) (.int .u8 (F (m + 1)))
        have rA := (tA.set (i := nk F m) (by omega) (F (m + 1))).congr (g := kf F (m + 1)) (fun t _ => by rw [kf_yes ho])
        have rD := tD.other (p := ⟨B + 2, nk F m, none⟩) (by show B + 2 ≠ B; omega) (.int .u8 (F (m + 1)))
        have rb : Below B w ((wr.setCell ⟨B + 1, 1, none⟩ (.int .u8 (F (m + 1)))).setCell ⟨B + 2, nk F m, none⟩ (.int .u8 (F (m + 1)))) := tb.setCell (by show B ≤ B + 2; omega) _
        clear ho hO hA hD hb tA tD tb hxx
        generalize kf F m (nk F m) = yk at uk
        generalize F (m + 1) = z at ud tO HPO rO rA rD rb
        generalize nk F m = kk at uk vk HK rO rA rD rb hkl ⊢
        go_wp2_with (go_at_call 6; refine (plain6_arr (B + 1) 3 3 (one z) _ tO (by omega) (by omega) HPO.out).mono ?_; rintro e w4 ⟨rfl, rfl⟩)
        go_roundw
        case rel => exact ⟨m + 1, z, by omega, by go_num, by rw [HK.out]; go_num, rO, rA, rD, rb, by simpa using HSr.out⟩
        case measure => simp [intOf]; omega
      | false =>
        have HK : Hid (nk F (m + 1) = nk F m) := nk_no ho
        have HPO : Hid (plainB 3 (one (F (m + 1))) = false) := by rw [Hid, plain_one]; exact ho
        have rA := tA.congr (g := kf F (m + 1)) (fun t _ => by rw [kf_no ho])
        clear ho hO hA hD hb tA hxx
        generalize F (m + 1) = z at ud tO HPO rA tD tb
        go_wp2_with (go_at_call 6; refine (plain6_arr (B + 1) 3 3 (one z) _ tO (by omega) (by omega) HPO.out).mono ?_; rintro e w4 ⟨rfl, rfl⟩)
        go_roundw
        case rel => exact ⟨m + 1, z, by omega, by go_num, by rw [HK.out], tO, rA, tD, tb, by simpa using HSr.out⟩
        case measure => simp [intOf]; omega
    · have hM : Hid (2 ≤ n → m = n - 2) := fun h => by omega
      have HKO : Hid (∀ t, t < nk F m → okB (kf F m t) = true) := fun t ht => kf_ok F m t ht
      have HKN : Hid (∀ k, nk F m = k → 2 ≤ n → nk F (n - 2) = k) := fun k h h2 => by rw [← hM.out h2]; exact h
      have hkn : nk F m ≤ n := by omega
      have hm2 : m ≤ 1048576 := by omega
      have hmn' : ¬ ((m : Int) + 1 + 1 < n) := by omega
      clear hO hkl hm
      generalize hKF : kf F m = K at hA HKO
      obtain ⟨N, hN⟩ : ∃ N, nk F m = N := ⟨_, rfl⟩
      have HN2 : Hid (2 ≤ n → nk F (n - 2) = N) := fun h => HKN.out N hN h
      rw [hN] at HKO hkn ⊢
      clear hKF hN HKN hM
      go_wp2_with (at_make; refine wpList_make_arr _ rfl _ _ 22 rfl 5 i0 .u8 Try.underlying22 hi hz0 hz1 .i64 .i64 _ _ (N + 2) rfl rfl (by omega) (by omega) (by omega) (by omega) ?_)
      intro w5 hK5 hs5 hA5 hR5
      rw [HSr.out] at hs5 hA5 ⊢
      have HS5 : Hid (w5.heap.size = B + 4) := hs5
      have hb5 : Below B w w5 := hK5.below hb (by have := HSr.out; omega) (fun b hb => by cases hb)
      have hD5 : Arr .u8 w5 B n F := hD.keep hK5 (by have := HSr.out; omega) (by simp)
      have hk5 : Arr .u8 w5 (B + 2) n K := hA.keep hK5 (by have := HSr.out; omega) (by simp)
      have u0 := hA5.cell (j := 0) (by omega)
      have v0 := hA5.free (j := 0) (by omega)
      have hQ5 := (hA5.set (i := 0) (by omega) 34).congr (g := qf K 0) (fun t _ => by
        by_cases e : t = 0
        · subst e; rfl
        · have h1 : ¬ t < 1 := by omega
          rw [upd_other _ _ e]; simp [qf, e])
      have hD5' := hD5.other (p := ⟨B + 3, 0, none⟩) (by show B + 3 ≠ B; omega) (.int .u8 34)
      have hk5' := hk5.other (p := ⟨B + 3, 0, none⟩) (by show B + 3 ≠ B + 2; omega) (.int .u8 34)
      have hb5' : Below B w (w5.setCell ⟨B + 3, 0, none⟩ (.int .u8 34)) := hb5.setCell (by show B ≤ B + 3; omega) _
      clear hs5 hK5 hR5 hD hA hb hD5 hk5 hb5 hA5
      go_wp2
      clear u0 v0
      go_loopw [9] (fun i wr => ∃ j : Nat, j ≤ N ∧ i = .int .i64 j ∧ Arr .u8 wr (B + 3) (N + 2) (qf K j) ∧ Arr .u8 wr (B + 2) n K ∧ Arr .u8 wr B n F ∧ Below B w wr ∧ wr.heap.size = B + 4) (fun i _ => N - (intOf i).toNat)
      case atStart => exact ⟨0, by omega, rfl, hQ5, hk5', hD5', hb5', by simpa using HS5.out⟩
      case round =>
        obtain ⟨j, hj, rfl, hQ, hk, hD, hb, hs⟩ := hrel
        have HSq : Hid (wr.heap.size = B + 4) := hs
        clear hs hQ5 hk5' hD5' hb5'
        by_cases hjn : j < N
        · have u1 := hk.cell (j := j) (by omega)
          have u2 := hQ.cell (j := j + 1) (by omega)
          have v2 := hQ.free (j := j + 1) (by omega)
          have tQ := (hQ.set (i := j + 1) (by omega) (K j)).congr (g := qf K (j + 1)) (fun t _ => qf_step _ _ _)
          have tk := hk.other (p := ⟨B + 3, j + 1, none⟩) (by show B + 3 ≠ B + 2; omega) (.int .u8 (K j))
          have tD := hD.other (p := ⟨B + 3, j + 1, none⟩) (by show B + 3 ≠ B; omega) (.int .u8 (K j))
          have tb : Below B w (wr.setCell ⟨B + 3, j + 1, none⟩ (.int .u8 (K j))) := hb.setCell (by show B ≤ B + 3; omega) _
          generalize K j = z at u1 tQ tk tD tb
          generalize qf K j (j + 1) = yy at u2
          clear hQ hk hD hb
          go_wp2
          go_roundw
          case rel => exact ⟨j + 1, by omega, by go_num, tQ, tk, tD, tb, by simpa using HSq.out⟩
          case measure => simp [intOf]; omega
        · have e : N = j := by omega
          subst e
          have u2 := hQ.cell (j := N + 1) (by omega)
          have v2 := hQ.free (j := N + 1) (by omega)
          have tQ := hQ.set (i := N + 1) (by omega) 34
          have tD := hD.other (p := ⟨B + 3, N + 1, none⟩) (by show B + 3 ≠ B; omega) (.int .u8 34)
          have tb : Below B w (wr.setCell ⟨B + 3, N + 1, none⟩ (.int .u8 34)) := hb.setCell (by show B ≤ B + 3; omega) _
          have HPQ : Hid (plainB (N + 2) (upd (qf K N) (N + 1) 34) = true) := plain_qf K N HKO.out
          generalize qf K N (N + 1) = yy at u2
          clear hjn hj hQ hk hD hb hmn hmn'
          by_cases h2 : n < 2
          · have PD : Hid (plainB n F = false) := by
              have : ¬ 2 ≤ n := by omega
              simp [Hid, plainB, this]
            have h3 := tQ
            have hd := tD
            have HBB : Hid (Below B w (wr.setCell ⟨B + 3, N + 1, none⟩ (.int .u8 34))) := tb
            clear tQ tD tb
            go_wp2_with fail
            refine (plain6_arr (B + 3) (N + 2) (N + 2) (upd (qf K N) (N + 1) 34) _ h3 (by omega) (by omega) HPQ.out).mono ?_
            rintro e w' ⟨rfl, rfl⟩
            go_wp2_with fail
            refine (plain6_arr B n n F _ hd (by omega) (by omega) (r := false) PD.out).mono ?_
            rintro e w' ⟨rfl, rfl⟩
            go_wp2
            go_ret
            exact ⟨rfl, by rw [HB.out]; exact HBB.out⟩
          · have hd0 := tD.cell (j := 0) (by omega)
            have hd1 := tD.cell (j := n - 1) (by omega)
            have HPP : Hid (plainB n F = ((F 0 == 34) && ((F (n - 1) == 34) && (nk F (n - 2) == n - 2)))) := plain_parts n F (by omega)
            have HN : Hid (nk F (n - 2) = N) := HN2.out (by omega)
            go_wp2_with (at_make; refine wpList_make_arr _ rfl _ _ 22 rfl 5 i0 .u8 Try.underlying22 hi hz0 hz1 .i64 .i64 _ _ 2 rfl rfl rfl rfl (by omega) (by omega) ?_)
            intro w7 hK7 hs7 hA7 hR7
            rw [HSq.out] at hs7 hA7 ⊢
            have HS7 : Hid (w7.heap.size = B + 5) := hs7
            have tQ7 := tQ.keep hK7 (by have := HSq.out; simp; omega) (by simp)
            have tD7 := tD.keep hK7 (by have := HSq.out; simp; omega) (by simp)
            have tb7 : Below B w w7 := hK7.below tb (by have := HSq.out; simp; omega) (fun b hb => by cases hb)
            have f0 := tD7.cell (j := 0) (by omega)
            have k0 := hA7.cell (j := 0) (by omega)
            have k1 := hA7.cell (j := 1) (by omega)
            have l0 := hA7.free (j := 0) (by omega)
            have l1 := hA7.free (j := 1) (by omega)
            clear hs7 hK7 hR7 u2 v2 hd0 hd1 tQ tD tb
            generalize hx0 : F 0 = x0 at f0 HPP
            go_wp2_with (at_make; refine wpList_make_arr _ rfl _ _ 22 rfl 5 i0 .u8 Try.underlying22 hi hz0 hz1 .i64 .i64 _ _ 2 rfl rfl rfl rfl (by omega) (by omega) ?_)
            intro w9 hK9 hs9 hA9 hR9
            rw [HS7.out] at hs9 hA9 ⊢
            have HS9 : Hid (w9.heap.size = B + 6) := hs9
            have h48 := ((hA7.set (i := 0) (by omega) x0).set (i := 1) (by omega) 34).congr (g := two x0 34) (fun t ht => by
              obtain rfl | rfl : t = 0 ∨ t = 1 := by omega
              · rfl
              · rfl)
            have h49 := h48.keep hK9 (by have := HS7.out; simp; omega) (by simp)
            have h39 := ((tQ7.other (p := ⟨B + 4, 0, none⟩) (by show B + 4 ≠ B + 3; omega) (.int .u8 x0)).other (p := ⟨B + 4, 1, none⟩) (by show B + 4 ≠ B + 3; omega) (.int .u8 34)).keep hK9 (by have := HS7.out; simp; omega) (by simp)
            have hd9 := ((tD7.other (p := ⟨B + 4, 0, none⟩) (by show B + 4 ≠ B; omega) (.int .u8 x0)).other (p := ⟨B + 4, 1, none⟩) (by show B + 4 ≠ B; omega) (.int .u8 34)).keep hK9 (by have := HS7.out; simp; omega) (by simp)
            have tb9 : Below B w w9 := hK9.below ((tb7.setCell (p := ⟨B + 4, 0, none⟩) (by show B ≤ B + 4; omega) (.int .u8 x0)).setCell (p := ⟨B + 4, 1, none⟩) (by show B ≤ B + 4; omega) (.int .u8 34)) (by have := HS7.out; simp; omega) (fun b hb => by cases hb)
            have f1 := hd9.cell (j := n - 1) (by omega)
            have m0 := hA9.cell (j := 0) (by omega)
            have m1 := hA9.cell (j := 1) (by omega)
            have n0 := hA9.free (j := 0) (by omega)
            have n1 := hA9.free (j := 1) (by omega)
            clear hs9 hK9 hR9 h48 tQ7 tD7 tb7 f0 k0 k1 l0 l1 hA7 hx0
            generalize hx1 : F (n - 1) = x1 at f1 HPP
            clear hx1
            have h5 := ((hA9.set (i := 0) (by omega) 34).set (i := 1) (by omega) x1).congr (g := two 34 x1) (fun t ht => by
              obtain rfl | rfl : t = 0 ∨ t = 1 := by omega
              · rfl
              · rfl)
            have h4 := (h49.other (p := ⟨B + 5, 0, none⟩) (by show B + 5 ≠ B + 4; omega) (.int .u8 34)).other (p := ⟨B + 5, 1, none⟩) (by show B + 5 ≠ B + 4; omega) (.int .u8 x1)
            have h3 := (h39.other (p := ⟨B + 5, 0, none⟩) (by show B + 5 ≠ B + 3; omega) (.int .u8 34)).other (p := ⟨B + 5, 1, none⟩) (by show B + 5 ≠ B + 3; omega) (.int .u8 x1)
            have hd := (hd9.other (p := ⟨B + 5, 0, none⟩) (by show B + 5 ≠ B; omega) (.int .u8 34)).other (p := ⟨B + 5, 1, none⟩) (by show B + 5 ≠ B; omega) (.int .u8 x1)
            have HBB : Hid (Below B w ((w9.setCell ⟨B + 5, 0, none⟩ (.int .u8 34)).setCell ⟨B + 5, 1, none⟩ (.int .u8 x1))) := (tb9.setCell (p := ⟨B + 5, 0, none⟩) (by show B ≤ B + 5; omega) (.int .u8 34)).setCell (p := ⟨B + 5, 1, none⟩) (by show B ≤ B + 5; omega) (.int .u8 x1)
            have P0a := plain_two x0 34
            have P1a := plain_two 34 x1
            rw [HN.out] at HPP
            have HN3 : Hid (∀ b : Bool, (N == n - 2) = b → ((N : Int) == (n : Int) - 2) = b) := fun b h => by
              rw [← h, Bool.eq_iff_iff]; simp; omega
            clear h49 h39 hd9 tb9 hA9
            cases g0 : (x0 == 34) with
            | false =>
                have P0 : Hid (plainB 2 (two x0 34) = false) := by rw [Hid, P0a, g0]; rfl
                have PD : Hid (plainB n F = false) := by rw [Hid, HPP.out, g0]; rfl
                clear g0 P0a P1a
                go_wp2_with fail
                refine (plain6_arr (B + 4) 2 2 (two x0 34) _ h4 (by omega) (by omega) (r := false) P0.out).mono ?_
                rintro e w' ⟨rfl, rfl⟩
                go_wp2_with fail
                refine (plain6_arr (B + 3) (N + 2) (N + 2) (upd (qf K N) (N + 1) 34) _ h3 (by omega) (by omega) HPQ.out).mono ?_
                rintro e w' ⟨rfl, rfl⟩
                go_wp2_with fail
                refine (plain6_arr B n n F _ hd (by omega) (by omega) (r := false) PD.out).mono ?_
                rintro e w' ⟨rfl, rfl⟩
                go_wp2
                go_ret
                exact ⟨rfl, by rw [HB.out]; exact HBB.out⟩
            | true =>
            cases g1 : (x1 == 34) with
            | false =>
                have P0 : Hid (plainB 2 (two x0 34) = true) := by rw [Hid, P0a, g0]; rfl
                have P1 : Hid (plainB 2 (two 34 x1) = false) := by rw [Hid, P1a, g1]; rfl
                have PD : Hid (plainB n F = false) := by rw [Hid, HPP.out, g0, g1]; rfl
                clear g0 g1 P0a P1a
                go_wp2_with fail
                refine (plain6_arr (B + 4) 2 2 (two x0 34) _ h4 (by omega) (by omega) (r := true) P0.out).mono ?_
                rintro e w' ⟨rfl, rfl⟩
                go_wp2_with fail
                refine (plain6_arr (B + 5) 2 2 (two 34 x1) _ h5 (by omega) (by omega) (r := false) P1.out).mono ?_
                rintro e w' ⟨rfl, rfl⟩
                go_wp2_with fail
                refine (plain6_arr (B + 3) (N + 2) (N + 2) (upd (qf K N) (N + 1) 34) _ h3 (by omega) (by omega) HPQ.out).mono ?_
                rintro e w' ⟨rfl, rfl⟩
                go_wp2_with fail
                refine (plain6_arr B n n F _ hd (by omega) (by omega) (r := false) PD.out).mono ?_
                rintro e w' ⟨rfl, rfl⟩
                go_wp2
                go_ret
                exact ⟨rfl, by rw [HB.out]; exact HBB.out⟩
            | true =>
            cases g2 : (N == n - 2) with
            | false =>
                have P0 : Hid (plainB 2 (two x0 34) = true) := by rw [Hid, P0a, g0]; rfl
                have P1 : Hid (plainB 2 (two 34 x1) = true) := by rw [Hid, P1a, g1]; rfl
                have PD : Hid (plainB n F = false) := by rw [Hid, HPP.out, g0, g1, g2]; rfl
                have g3 := HN3.out false g2
                clear g0 g1 g2 P0a P1a
                go_wp2_with fail
                refine (plain6_arr (B + 4) 2 2 (two x0 34) _ h4 (by omega) (by omega) (r := true) P0.out).mono ?_
                rintro e w' ⟨rfl, rfl⟩
                go_wp2_with fail
                refine (plain6_arr (B + 5) 2 2 (two 34 x1) _ h5 (by omega) (by omega) (r := true) P1.out).mono ?_
                rintro e w' ⟨rfl, rfl⟩
                go_wp2_with fail
                refine (plain6_arr (B + 3) (N + 2) (N + 2) (upd (qf K N) (N + 1) 34) _ h3 (by omega) (by omega) HPQ.out).mono ?_
                rintro e w' ⟨rfl, rfl⟩
                go_wp2_with fail
                refine (plain6_arr B n n F _ hd (by omega) (by omega) (r := false) PD.out).mono ?_
                rintro e w' ⟨rfl, rfl⟩
                go_wp2
                go_ret
                exact ⟨rfl, by rw [HB.out]; exact HBB.out⟩
            | true =>
                have P0 : Hid (plainB 2 (two x0 34) = true) := by rw [Hid, P0a, g0]; rfl
                have P1 : Hid (plainB 2 (two 34 x1) = true) := by rw [Hid, P1a, g1]; rfl
                have PD : Hid (plainB n F = true) := by rw [Hid, HPP.out, g0, g1, g2]; rfl
                have g3 := HN3.out true g2
                clear g0 g1 g2 P0a P1a
                go_wp2_with fail
                refine (plain6_arr (B + 4) 2 2 (two x0 34) _ h4 (by omega) (by omega) (r := true) P0.out).mono ?_
                rintro e w' ⟨rfl, rfl⟩
                go_wp2_with fail
                refine (plain6_arr (B + 5) 2 2 (two 34 x1) _ h5 (by omega) (by omega) (r := true) P1.out).mono ?_
                rintro e w' ⟨rfl, rfl⟩
                go_wp2_with fail
                refine (plain6_arr (B + 3) (N + 2) (N + 2) (upd (qf K N) (N + 1) 34) _ h3 (by omega) (by omega) HPQ.out).mono ?_
                rintro e w' ⟨rfl, rfl⟩
                go_wp2_with fail
                refine (plain6_arr B n n F _ hd (by omega) (by omega) (r := true) PD.out).mono ?_
                rintro e w' ⟨rfl, rfl⟩
                go_wp2
                go_ret
                exact ⟨rfl, by rw [HB.out]; exact HBB.out⟩

set_option maxHeartbeats 4000000 in
set_option maxRecDepth 100000 in
theorem byte_nil (w : World) : Calls Try.prog 4 #[.slice none 0 0] w fun e w' => e = .returned (.bool true) ∧ Below w.heap.size w w' := by
  obtain ⟨i0, hi, hz0, hz1, hz2⟩ := info_parts info5
  have q : ∀ (w : World) (a : Option Addr) (n c n' c' : Nat), (binOp .neq 22 (.slice a n c) (.slice none n' c')).run Try.prog w = .ok (.bool (!a.isNone)) w := fun w a n c n' c' => run_neq_slice_nil_any w _ _ a n c n' c' Try.underlying22
  go_enter Try.func4, Try.ntmps4
  go_wp2_with (first | (go_at_call 7; refine (bytes7_yes _ 0 0 _ (by omega)).mono ?_; rintro e w ⟨rfl, rfl⟩) | (at_make; refine wpList_make_arr _ rfl _ _ 22 rfl 5 i0 .u8 Try.underlying22 hi hz0 hz1 .i64 .i64 _ _ 3 rfl rfl rfl rfl (by omega) (by omega) ?_))
  intro w2 hK2 hs2 hA2 hR2
  clear q
  obtain ⟨B, hB⟩ : ∃ B, w.heap.size = B := ⟨_, rfl⟩
  have HB : Hid (w.heap.size = B) := hB
  rw [hB] at hs2 hA2 ⊢
  have HS2 : Hid (w2.heap.size = B + 1) := hs2
  have hb2 : Below B w w2 := hK2.below (Below.refl _ _) (by rw [hB]; exact Nat.le_refl _) (fun b hb => by cases hb)
  have u0 := hA2.cell (j := 0) (by omega)
  have u2 := hA2.cell (j := 2) (by omega)
  have v0 := hA2.free (j := 0) (by omega)
  have v2 := hA2.free (j := 2) (by omega)
  clear hs2 hK2 hR2 hA2 hB
  go_wp2_with (at_make; refine wpList_make_arr _ rfl _ _ 22 rfl 5 i0 .u8 Try.underlying22 hi hz0 hz1 .i64 .i64 _ _ 0 rfl rfl rfl rfl (by omega) (by omega) ?_)
  intro w3 hK3 hs3 hA3 hR3
  rw [HS2.out] at hs3 ⊢
  have HS3 : Hid (w3.heap.size = B + 2) := hs3
  have hb3 : Below B w w3 := hK3.below ((hb2.setCell (p := ⟨B, 0, none⟩) (Nat.le_refl _) (.int .u8 34)).setCell (p := ⟨B, 2, none⟩) (Nat.le_refl _) (.int .u8 34)) (by have := HS2.out; simp; omega) (fun b hb => by cases hb)
  clear hs3 hK3 hR3 hA3 hb2 u0 u2 v0 v2
  go_wp2
  go_loop [6, 7] (fun kv i => i = .int .i64 1 ∧ kv = .int .i64 0) (fun _ _ => 0)
  case atStart => exact ⟨rfl, rfl⟩
  case round =>
    obtain ⟨rfl, rfl⟩ := hrel
    go_wp2_with (at_make; refine wpList_make_arr _ rfl _ _ 22 rfl 5 i0 .u8 Try.underlying22 hi hz0 hz1 .i64 .i64 _ _ 2 rfl rfl rfl rfl (by omega) (by omega) ?_)
    intro w5 hK5 hs5 hA5 hR5
    rw [HS3.out] at hs5 hA5 ⊢
    have HS5 : Hid (w5.heap.size = B + 3) := hs5
    have hb5 : Below B w w5 := hK5.below hb3 (by have := HS3.out; omega) (fun b hb => by cases hb)
    have u0 := hA5.cell (j := 0) (by omega)
    have v0 := hA5.free (j := 0) (by omega)
    have u1 := hA5.cell (j := 1) (by omega)
    have v1 := hA5.free (j := 1) (by omega)
    clear hs5 hK5 hR5 hb3
    go_wp2
    go_loop [9] (fun i => i = .int .i64 0) (fun _ => 0)
    case atStart => exact rfl
    case round =>
      subst hrel
      have h3 := ((hA5.set (i := 0) (by omega) 34).set (i := 1) (by omega) 34).congr (g := two 34 34) (fun t ht => by
        obtain rfl | rfl : t = 0 ∨ t = 1 := by omega
        · rfl
        · rfl)
      have HBB : Hid (Below B w ((w5.setCell ⟨B + 2, 0, none⟩ (.int .u8 34)).setCell ⟨B + 2, 1, none⟩ (.int .u8 34))) := (hb5.setCell (p := ⟨B + 2, 0, none⟩) (by show B ≤ B + 2; omega) (.int .u8 34)).setCell (p := ⟨B + 2, 1, none⟩) (by show B ≤ B + 2; omega) (.int .u8 34)
      have HPQ : Hid (plainB 2 (two 34 34) = true) := by rw [Hid, plain_two]; rfl
      clear hb5 hA5
      go_wp2_with fail
      refine (plain6_arr (B + 2) 2 2 (two 34 34) _ h3 (by omega) (by omega) HPQ.out).mono ?_
      rintro e w' ⟨rfl, rfl⟩
      go_wp2_with fail
      refine (plain6 none 0 0 (fun _ => 0) _ (fun h => absurd h (Nat.lt_irrefl 0)) (by omega) (by omega)).mono ?_
      rintro e w' ⟨rfl, rfl⟩
      rw [show plainB 0 (fun _ => 0) = false from rfl]
      go_wp2
      go_ret
      exact ⟨rfl, by rw [HB.out]; exact HBB.out⟩
end Go.Proofs.Qxb6629057a

/-
  THE WALK of 'FnPlaceWhole': the counting state.
-/
import Derived.Test.Qxb6628496aWholePut
namespace Go.Proofs.Qxb6628496a
open Go.RowKit
set_option linter.unusedVariables false

theorem pre_nonneg' {f : Nat → Int} {k : Nat} (h : ∀ t, t < k → 0 ≤ f t) : ∀ v, v ≤ k → 0 ≤ pre f v := by
  intro v
  induction v with
  | zero => intro _; exact Int.le_refl _
  | succ v ih => intro hv; have := ih (by omega); have := h v (by omega); simp only [pre]; omega
theorem pre_mono' {f : Nat → Int} {k : Nat} (h : ∀ t, t < k → 0 ≤ f t) {u v : Nat} (huv : u ≤ v) (hv : v ≤ k) : pre f u ≤ pre f v := by
  induction v with
  | zero => have : u = 0 := by omega
            subst this; exact Int.le_refl _
  | succ v ih =>
    by_cases e : u = v + 1
    · subst e; exact Int.le_refl _
    · have := ih (by omega) (by omega); have := h v (by omega); simp only [pre]; omega

set_option maxHeartbeats 4000000 in
set_option maxRecDepth 100000 in
/-- The counting state. -/
theorem whole_count (a0 a1 : Option Addr) (c0 n1 c1 : Nat) (F1 : Nat → Int) (off : Int) (wi : Nat) (w : World) (hI1 : Inp .i64 w a1 n1 F1)
    (hn1 : n1 ≤ 65536) (ho : 0 ≤ off) (hwi : off / 65536 = (wi : Int)) (hw : wi < n1) :
    Calls Try.prog 3 #[.slice a0 0 c0, .slice a1 n1 c1, .int .i64 off] w fun e w' => e = .returned (.bool true) ∧ Below w.heap.size w w' := by
  obtain ⟨b1, o1, e1, hcx⟩ := hI1.at hw
  subst e1
  have hcs : ∀ i, i < n1 → w.cell? ⟨b1, o1 + i, none⟩ = some (.int .i64 (F1 i)) := by
    obtain ⟨b, o, e, _, h⟩ := hI1 (by omega)
    obtain ⟨rfl, rfl⟩ : b1 = b ∧ o1 = o := by simpa using e
    exact h
  have HCS : Hid (∀ i, i < n1 → w.cell? ⟨b1, o1 + i, none⟩ = some (.int .i64 (F1 i))) := hcs
  clear hcs
  go_enter Try.func3, Try.ntmps3
  go_wp2_with (go_at_call 5; refine (bytes5_yes _ _ 0 c0 n1 c1 off _ (by omega)).mono ?_; rintro e w ⟨rfl, rfl⟩)
  go_loop [9, 10] (fun tv i => ∃ j : Nat, j ≤ n1 ∧ i = .int .i64 j ∧ tv = .int .i64 (pre F1 j) ∧ (∀ t, t < j → 0 ≤ F1 t) ∧ pre F1 j ≤ 65536) (fun _ i => n1 - (intOf i).toNat)
  case atStart => exact ⟨0, Nat.zero_le _, rfl, rfl, fun t ht => absurd ht (Nat.not_lt_zero t), by simp [pre]⟩
  case round =>
    obtain ⟨j, hj, rfl, rfl, hv, hb⟩ := hrel
    have hb0 := pre_nonneg' hv j (Nat.le_refl _)
    by_cases hjn : j < n1
    · have hc := HCS.out j hjn
      have HV : Hid (∀ t, t < j → 0 ≤ F1 t) := hv
      clear hv
      obtain ⟨x, hx⟩ : ∃ x, F1 j = x := ⟨_, rfl⟩
      obtain ⟨y, hy⟩ : ∃ y, pre F1 j = y := ⟨_, rfl⟩
      have HXY : Hid (pre F1 (j + 1) = y + x) := by show pre F1 j + F1 j = y + x; rw [hx, hy]
      have HX : Hid (F1 j = x) := hx
      rw [hx] at hc
      rw [hy] at hb hb0 ⊢
      clear hx hy
      by_cases h1 : x < 0
      · go_wp2
        go_ret
        exact ⟨rfl, Below.refl _ _⟩
      by_cases h2 : 65536 < x
      · go_wp2
        go_ret
        exact ⟨rfl, Below.refl _ _⟩
      by_cases h3 : 65536 < y + x
      · go_wp2
        go_ret
        exact ⟨rfl, Below.refl _ _⟩
      · go_wp2
        go_round
        case rel => exact ⟨j + 1, by omega, by go_num, by rw [HXY.out], fun t ht => by
          by_cases e : t = j
          · subst e; have := HX.out; omega
          · exact HV.out t (by omega), by rw [HXY.out]; omega⟩
        case measure => simp [intOf]; omega
    · have e : n1 = j := by omega
      subst e
      have hm := fun v (h : v ≤ n1) => And.intro (pre_nonneg' hv v h) (pre_mono' hv h (Nat.le_refl _))
      obtain ⟨N, hN⟩ : ∃ N : Nat, pre F1 n1 = N := ⟨_, (Int.toNat_of_nonneg hb0).symm⟩
      rw [hN] at hb hb0 hm ⊢
      have HN : Hid (pre F1 n1 = N) := hN
      have HV : Hid (∀ t, t < n1 → 0 ≤ F1 t) := hv
      have HM : Hid (∀ v, v ≤ n1 → 0 ≤ pre F1 v ∧ pre F1 v ≤ N) := hm
      clear hv hm hN hjn hj
      by_cases hs1 : F1 wi < 1
      · generalize F1 wi = y at hcx hs1
        go_wp2
        go_ret
        exact ⟨rfl, Below.refl _ _⟩
      obtain ⟨q, hq⟩ : ∃ q : Nat, pre F1 (wi + 1) = (q : Int) + 1 := ⟨(pre F1 (wi + 1) - 1).toNat, by
        have h1 : pre F1 (wi + 1) = pre F1 wi + F1 wi := rfl
        have h2 := (HM.out wi (by omega)).1
        omega⟩
      have HQ : Hid (pre F1 (wi + 1) = (q : Int) + 1) := hq
      have hqN : q < N := by have := (HM.out (wi + 1) (by omega)).2; omega
      have hN47 : N ≤ 65536 := by omega
      clear hq
      obtain ⟨x, hx⟩ : ∃ x, F1 wi = x := ⟨_, rfl⟩
      rw [hx] at hcx hs1
      clear hx
      go_wp2_with fail
      clear hcx hs1
      obtain ⟨B, hB⟩ : ∃ B, w.heap.size = B := ⟨_, rfl⟩
      have HB : Hid (w.heap.size = B) := hB
      clear hB
      refine (clone6 a0 0 c0 (fun _ => 0) _ (fun h => absurd h (Nat.lt_irrefl 0)) (by omega) (fun _ => rfl)).mono ?_
      rintro e w1 ⟨r1, rfl, k1, -⟩
      go_wp2_with fail
      refine (clone7 _ n1 c1 F1 _ (hI1.below k1.below0) (by omega) (fun h => by cases h)).mono ?_
      rintro e w2 ⟨r2, rfl, k2, t2⟩
      obtain ⟨rfl, s2, A2⟩ := t2 (by omega)
      obtain ⟨T, hT⟩ : ∃ T, w1.heap.size = T := ⟨_, rfl⟩
      have hBT : B ≤ T := by rw [← hT, ← HB.out]; exact k1.size
      rw [hT] at s2 A2 ⊢
      have HS2 : Hid (w2.heap.size = T + 1) := s2
      have k02 := k1.trans k2
      clear t2 s2 hT
      go_wp2_with fail
      refine (clone6 a0 0 c0 (fun _ => 0) _ (fun h => absurd h (Nat.lt_irrefl 0)) (by omega) (fun _ => rfl)).mono ?_
      rintro e w3 ⟨r3, rfl, k3, -⟩
      have k03 := k02.trans k3
      go_wp2_with fail
      refine (clone7 _ n1 c1 F1 _ (hI1.below k03.below0) (by omega) (fun h => by cases h)).mono ?_
      rintro e w4 ⟨r4, rfl, k4, t4⟩
      obtain ⟨rfl, s4, A4⟩ := t4 (by omega)
      obtain ⟨S, hS⟩ : ∃ S, w3.heap.size = S := ⟨_, rfl⟩
      have hTS : T + 1 ≤ S := by rw [← hS, ← HS2.out]; exact k3.size
      have HS3 : Hid (w3.heap.size = S) := hS
      rw [hS] at s4 A4 ⊢
      have HS4 : Hid (w4.heap.size = S + 1) := s4
      have k04 := k03.trans k4
      clear t4 s4 hS
      go_wp2_with fail
      refine (new8 _ _ _ _ _ _ _).mono ?_
      rintro e w5 ⟨rfl, hw5⟩
      rw [HS4.out]
      have q0 : w5.cell? ⟨S + 1, 0, none⟩ = some (.slice r3 0 0) := by rw [hw5, ← HS4.out, World.cell?_alloc_new]; rfl
      have q1 : w5.cell? ⟨S + 1, 1, none⟩ = some (.slice (some ⟨S, 0, none⟩) n1 n1) := by rw [hw5, ← HS4.out, World.cell?_alloc_new]; rfl
      have q2 : w5.frozen? ⟨S + 1, 0, none⟩ = false := by rw [hw5, ← HS4.out]; exact World.frozen?_alloc_new _ _ _ _
      have k05 : Keep [] w w5 := by rw [hw5]; exact k04.alloc _
      have HS5 : Hid (w5.heap.size = S + 2) := by show w5.heap.size = S + 2; rw [hw5]; simp [HS4.out]
      have k45 : Keep [] w4 w5 := by rw [hw5]; exact (Keep.refl _ _).alloc _
      have D2 : Arr .i64 w5 T n1 F1 := ((A2.keep k3 (by have := HS2.out; omega) (by simp)).keep k4 (by have := HS3.out; omega) (by simp)).keep k45 (by have := HS4.out; omega) (by simp)
      have D4 : Arr .i64 w5 S n1 F1 := A4.keep k45 (by have := HS4.out; omega) (by simp)
      clear hw5 A2 A4 k1 k2 k3 k4 k02 k03 k04 k45 HS2 HS3 HS4
      go_wp2_with fail
      refine (count9 r3 (S + 1) S n1 n1 wi q N F1 off w5 ho (by omega) (by omega) q0 q2 q1 D4 (by omega) (by have := HS5.out; omega) (by have := HS5.out; omega) HV.out HM.out HN.out (by omega) hwi hw HQ.out).mono ?_
      rintro e w6 ⟨rfl, k6, ⟨G, p0⟩, s6, -, p1, G4, G3⟩
      rw [HS5.out] at p0 s6 G3
      have G2 : Arr .i64 w6 T n1 F1 := D2.keep k6 (by have := HS5.out; omega) (by simp; omega)
      have hbe : Below B w w6 := k6.below (by rw [← HB.out]; exact k05.below0) (by have := HS5.out; omega) (fun b hb => by simp at hb; omega)
      have HBE : Hid (Below B w w6) := hbe
      clear q0 q1 q2 D2 D4 k05 k6 s6 hbe hI1 HCS HS5
      have hl16 := low16 off
      go_wp2_with (first | (go_at_call 10; refine (low10 (S + 1) _ _ p0).mono ?_; rintro e w7 ⟨rfl, hw7⟩; subst hw7) | (go_at_call 11; refine (starts11 (S + 1) _ _ p1).mono ?_; rintro e w8 ⟨rfl, hw8⟩; subst hw8))
      clear hl16
      generalize IntKind.u16.wrap off = lb at G3 ⊢
      go_loop [23, 24] (fun pv i => ∃ j : Nat, j ≤ n1 ∧ i = .int .i64 j ∧ pv = .int .i64 (pre F1 j)) (fun _ i => n1 - (intOf i).toNat)
      case atStart => exact ⟨0, Nat.zero_le _, rfl, rfl⟩
      case round =>
        obtain ⟨j, hj, rfl, rfl⟩ := hrel
        by_cases hjn : j < n1
        · have u2 := G2.cell hjn
          have u4 := G4.cell hjn
          have c1 := HM.out j hj
          have c2 := HM.out (j + 1) hjn
          have c3 : pre F1 (j + 1) = pre F1 j + F1 j := rfl
          by_cases hjy : j = wi
          · subst hjy
            rw [upd_same] at u4
            have c4 := HQ.out
            have htest : ((q : Int) + 1 - pre F1 j != F1 j) = false := by simp; omega
            have c5 : Hid (pre F1 (j + 1) = (q : Int) + 1) := c4
            rw [c4] at c2 c3
            generalize F1 j = x at u2 c3 htest
            generalize pre F1 j = y at c1 c3 htest ⊢
            clear G2 G3 G4 c3 c4
            go_wp2
            go_round
            case rel => exact ⟨j + 1, by omega, by go_num, by rw [c5.out]⟩
            case measure => simp [intOf]; omega
          · rw [upd_other _ _ hjy] at u4
            have hjy' : ((j : Int) == (wi : Int)) = false := by rw [beq_eq_false_iff_ne]; omega
            obtain ⟨t, ht⟩ : ∃ t, pre F1 (j + 1) = t := ⟨_, rfl⟩
            have HT : Hid (pre F1 (j + 1) = t) := ht
            have u4' : w8.cell? ⟨S, j, none⟩ = some (.int .i64 t) := by rw [← ht]; exact u4
            rw [ht] at c2 c3
            have htest : (t - pre F1 j != F1 j) = false := by simp; omega
            generalize F1 j = x at u2 c3 htest
            generalize pre F1 j = y at c1 c3 htest ⊢
            clear G2 G3 G4 u4 ht c3
            go_wp2
            go_round
            case rel => exact ⟨j + 1, by omega, by go_num, by rw [HT.out]⟩
            case measure => simp [intOf]; omega
        · have e : n1 = j := by omega
          subst e
          have u4 := G4.cell hw
          rw [upd_same] at u4
          rw [HN.out]
          clear hjn hj G2 G4
          go_wp2
          go_loop [27] (fun i => ∃ j : Nat, j ≤ N ∧ i = .int .i64 j) (fun i => N - (intOf i).toNat)
          case atStart => exact ⟨0, Nat.zero_le _, rfl⟩
          case round =>
            obtain ⟨j, hj, rfl⟩ := hrel
            by_cases hjn : j < N
            · have u3 := G3.cell hjn
              by_cases hjy : j = q
              · subst hjy
                rw [upd_same] at u3
                clear G3
                go_wp2
                go_round
                case rel => exact ⟨j + 1, by omega, by go_num⟩
                case measure => simp [intOf]; omega
              · rw [upd_other _ _ hjy] at u3
                have hjy' : ((j : Int) == (q : Int)) = false := by rw [beq_eq_false_iff_ne]; omega
                clear G3
                go_wp2
                go_round
                case rel => exact ⟨j + 1, by omega, by go_num⟩
                case measure => simp [intOf]; omega
            · have e : N = j := by omega
              subst e
              clear hjn hj G3
              go_wp2
              go_ret
              exact ⟨rfl, by rw [HB.out]; exact HBE.out⟩
end Go.Proofs.Qxb6628496a

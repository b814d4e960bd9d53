/-
  THE WALK of 'FnPlaceWhole': its guards, and the placing state.
-/
import Derived.Test.Qxb6628496aClone
namespace Go.Proofs.Qxb6628496a
open Go.RowKit
set_option linter.unusedVariables false

theorem Keep.below0 {w w' : World} (h : Keep [] w w') : Below w.heap.size w w' := Keep.below (Below.refl _ _) h (Nat.le_refl _) (fun b hb => by cases hb)

set_option maxHeartbeats 1000000 in
set_option maxRecDepth 100000 in
/-- The ways that end at the function's own first guards. -/
theorem whole_early (a0 a1 : Option Addr) (n0 c0 n1 c1 : Nat) (off : Int) (w : World)
    (h : 1048576 < n0 + n1 ∨ 262144 < n0 ∨ 65536 < n1 ∨ off < 0 ∨ (n1 : Int) ≤ off / 65536) :
    Calls Try.prog 3 #[.slice a0 n0 c0, .slice a1 n1 c1, .int .i64 off] w fun e w' => e = .returned (.bool true) ∧ Below w.heap.size w w' := by
  by_cases e1 : 1048576 < n0 + n1
  · go_enter Try.func3, Try.ntmps3
    go_wp2_with (go_at_call 5; refine (bytes5_no a0 a1 n0 c0 n1 c1 off _ e1).mono ?_; rintro e w ⟨rfl, rfl⟩)
    go_ret
    exact ⟨rfl, Below.refl _ _⟩
  by_cases e2 : 262144 < n0
  · clear h
    go_enter Try.func3, Try.ntmps3
    go_wp2_with (go_at_call 5; refine (bytes5_yes a0 a1 n0 c0 n1 c1 off _ (by omega)).mono ?_; rintro e w ⟨rfl, rfl⟩)
    go_ret
    exact ⟨rfl, Below.refl _ _⟩
  by_cases e3 : 65536 < n1
  · clear h
    go_enter Try.func3, Try.ntmps3
    go_wp2_with (go_at_call 5; refine (bytes5_yes a0 a1 n0 c0 n1 c1 off _ (by omega)).mono ?_; rintro e w ⟨rfl, rfl⟩)
    go_ret
    exact ⟨rfl, Below.refl _ _⟩
  by_cases e4 : off < 0
  · clear h
    go_enter Try.func3, Try.ntmps3
    go_wp2_with (go_at_call 5; refine (bytes5_yes a0 a1 n0 c0 n1 c1 off _ (by omega)).mono ?_; rintro e w ⟨rfl, rfl⟩)
    go_ret
    exact ⟨rfl, Below.refl _ _⟩
  · have e5 : (n1 : Int) ≤ off / 65536 := by omega
    clear h
    go_enter Try.func3, Try.ntmps3
    go_wp2_with (go_at_call 5; refine (bytes5_yes a0 a1 n0 c0 n1 c1 off _ (by omega)).mono ?_; rintro e w ⟨rfl, rfl⟩)
    go_ret
    exact ⟨rfl, Below.refl _ _⟩

set_option maxHeartbeats 4000000 in
set_option maxRecDepth 100000 in
/-- The placing state. -/
theorem whole_put (a0 a1 : Option Addr) (n0 c0 n1 c1 : Nat) (F0 F1 : Nat → Int) (off : Int) (wi : Nat) (w : World) (hI0 : Inp .u16 w a0 n0 F0) (hI1 : Inp .i64 w a1 n1 F1)
    (hn0 : n0 ≤ 262144) (hn1 : n1 ≤ 65536) (hp : 0 < n0) (ho : 0 ≤ off) (hwi : off / 65536 = (wi : Int)) (hw : wi < n1) :
    Calls Try.prog 3 #[.slice a0 n0 c0, .slice a1 n1 c1, .int .i64 off] w fun e w' => e = .returned (.bool true) ∧ Below w.heap.size w w' := by
  have hc0 : ((n0 : Int) == 0) = false := by rw [beq_eq_false_iff_ne]; omega
  obtain ⟨b1, o1, e1, hcx⟩ := hI1.at hw
  obtain ⟨b0, o0, e0, -⟩ := hI0.at hp
  subst e1
  subst e0
  by_cases hs1 : F1 wi < 1
  · generalize F1 wi = y at hcx hs1
    go_enter Try.func3, Try.ntmps3
    go_wp2_with (go_at_call 5; refine (bytes5_yes _ _ n0 c0 n1 c1 off _ (by omega)).mono ?_; rintro e w ⟨rfl, rfl⟩)
    go_ret
    exact ⟨rfl, Below.refl _ _⟩
  by_cases hs2 : (n0 : Int) < F1 wi
  · generalize F1 wi = y at hcx hs1 hs2
    go_enter Try.func3, Try.ntmps3
    go_wp2_with (go_at_call 5; refine (bytes5_yes _ _ n0 c0 n1 c1 off _ (by omega)).mono ?_; rintro e w ⟨rfl, rfl⟩)
    go_ret
    exact ⟨rfl, Below.refl _ _⟩
  obtain ⟨y, hy⟩ : ∃ y : Nat, F1 wi = (y : Int) + 1 := ⟨(F1 wi - 1).toNat, by omega⟩
  have HY : Hid (F1 wi = (y : Int) + 1) := hy
  have hyn : y < n0 := by omega
  rw [hy] at hcx
  clear hy hs1 hs2
  go_enter Try.func3, Try.ntmps3
  go_wp2_with (go_at_call 5; refine (bytes5_yes _ _ n0 c0 n1 c1 off _ (by omega)).mono ?_; rintro e w ⟨rfl, rfl⟩)
  obtain ⟨B, hB⟩ : ∃ B, w.heap.size = B := ⟨_, rfl⟩
  have HB : Hid (w.heap.size = B) := hB
  refine (clone6 _ n0 c0 F0 _ hI0 (by omega) (fun h => by cases h)).mono ?_
  rintro e w1 ⟨r, rfl, k1, t1⟩
  obtain ⟨rfl, s1, A1⟩ := t1 hp
  rw [hB] at s1 A1 ⊢
  clear t1 hB
  have HS1 : Hid (w1.heap.size = B + 1) := s1
  clear s1
  go_wp2_with fail
  refine (clone7 _ n1 c1 F1 _ (hI1.below k1.below0) (by omega) (fun h => by cases h)).mono ?_
  rintro e w2 ⟨r, rfl, k2, t2⟩
  obtain ⟨rfl, s2, A2⟩ := t2 (by omega)
  rw [HS1.out] at s2 A2 ⊢
  clear t2
  have HS2 : Hid (w2.heap.size = B + 2) := s2
  have k02 := k1.trans k2
  clear s2
  go_wp2_with fail
  refine (clone6 _ n0 c0 F0 _ (hI0.below k02.below0) (by omega) (fun h => by cases h)).mono ?_
  rintro e w3 ⟨r, rfl, k3, t3⟩
  obtain ⟨rfl, s3, A3⟩ := t3 hp
  rw [HS2.out] at s3 A3 ⊢
  clear t3
  have HS3 : Hid (w3.heap.size = B + 3) := s3
  have k03 := k02.trans k3
  clear s3
  go_wp2_with fail
  refine (clone7 _ n1 c1 F1 _ (hI1.below k03.below0) (by omega) (fun h => by cases h)).mono ?_
  rintro e w4 ⟨r, rfl, k4, t4⟩
  obtain ⟨rfl, s4, A4⟩ := t4 (by omega)
  rw [HS3.out] at s4 A4 ⊢
  clear t4
  have HS4 : Hid (w4.heap.size = B + 4) := s4
  have k04 := k03.trans k4
  clear s4
  go_wp2_with fail
  refine (new8 _ _ _ _ _ _ _).mono ?_
  rintro e w5 ⟨rfl, hw5⟩
  rw [HS4.out]
  have q0 : w5.cell? ⟨B + 4, 0, none⟩ = some (.slice (some ⟨B + 2, 0, none⟩) n0 n0) := by rw [hw5, ← HS4.out, World.cell?_alloc_new]; rfl
  have q1 : w5.cell? ⟨B + 4, 1, none⟩ = some (.slice (some ⟨B + 3, 0, none⟩) n1 n1) := by rw [hw5, ← HS4.out, World.cell?_alloc_new]; rfl
  have k05 : Keep [] w w5 := by rw [hw5]; exact k04.alloc _
  have HS5 : Hid (w5.heap.size = B + 5) := by show w5.heap.size = B + 5; rw [hw5]; simp [HS4.out]
  have k45 : Keep [] w4 w5 := by rw [hw5]; exact (Keep.refl _ _).alloc _
  have D1 : Arr .u16 w5 B n0 F0 := (((A1.keep k2 (by have := HS1.out; omega) (by simp)).keep k3 (by have := HS2.out; omega) (by simp)).keep k4 (by have := HS3.out; omega) (by simp)).keep k45 (by have := HS4.out; omega) (by simp)
  have D2 : Arr .i64 w5 (B + 1) n1 F1 := ((A2.keep k3 (by have := HS2.out; omega) (by simp)).keep k4 (by have := HS3.out; omega) (by simp)).keep k45 (by have := HS4.out; omega) (by simp)
  have D3 : Arr .u16 w5 (B + 2) n0 F0 := (A3.keep k4 (by have := HS3.out; omega) (by simp)).keep k45 (by have := HS4.out; omega) (by simp)
  have D4 : Arr .i64 w5 (B + 3) n1 F1 := A4.keep k45 (by have := HS4.out; omega) (by simp)
  clear hw5 A1 A2 A3 A4 k1 k2 k3 k4 k02 k03 k04 k45 HS1 HS2 HS3 HS4
  go_wp2_with fail
  refine (put9_arr (B + 4) (B + 3) (B + 2) n0 n0 n1 n1 wi F1 F0 off w5 ho (by omega) (by omega) (by omega) q0 q1 D4 D3 (by omega) (by omega) (by omega) hwi hw (by have := HY.out; omega) (by have := HY.out; omega)).mono ?_
  rintro e w6 ⟨rfl, k6, G4, G3, s6⟩
  have p0 : w6.cell? ⟨B + 4, 0, none⟩ = some (.slice (some ⟨B + 2, 0, none⟩) n0 n0) := (World.cell?_of_block (w := w5) (k6.block (B + 4) (by have := HS5.out; omega) (by simp))).trans q0
  have p1 : w6.cell? ⟨B + 4, 1, none⟩ = some (.slice (some ⟨B + 3, 0, none⟩) n1 n1) := (World.cell?_of_block (w := w5) (k6.block (B + 4) (by have := HS5.out; omega) (by simp))).trans q1
  have G1 : Arr .u16 w6 B n0 F0 := D1.keep k6 (by have := HS5.out; omega) (by simp)
  have G2 : Arr .i64 w6 (B + 1) n1 F1 := D2.keep k6 (by have := HS5.out; omega) (by simp)
  have hbe : Below B w w6 := k6.below (by rw [← HB.out]; exact k05.below0) (by have := HS5.out; omega) (fun b hb => by simp at hb; omega)
  have HY1 : (F1 wi - 1).toNat = y := by have := HY.out; omega
  have HY2 : F1 wi - 1 = (y : Int) := by have := HY.out; omega
  rw [HY1] at G3
  rw [HY2] at G4
  clear q0 q1 D1 D2 D3 D4 k05 k6 s6 hI0 hI1 HY1 HY2 hcx
  have HBE : Hid (Below B w w6) := hbe
  have hp2 := G2.cell hw
  rw [HY.out] at hp2
  clear hbe
  have hl16 := low16 off
  go_wp2_with (first | (go_at_call 10; refine (low10 (B + 4) _ _ p0).mono ?_; rintro e w7 ⟨rfl, hw7⟩; subst hw7) | (go_at_call 11; refine (starts11 (B + 4) _ _ p1).mono ?_; rintro e w8 ⟨rfl, hw8⟩; subst hw8))
  clear hl16
  generalize IntKind.u16.wrap off = lb at G3 ⊢
  go_loop [19] (fun i => ∃ j : Nat, j ≤ n0 ∧ i = .int .i64 j) (fun i => n0 - (intOf i).toNat)
  case atStart => exact ⟨0, Nat.zero_le _, rfl⟩
  case round =>
    obtain ⟨j, hj, rfl⟩ := hrel
    by_cases hjn : j < n0
    · have u1 := G1.cell hjn
      have u3 := G3.cell hjn
      by_cases hjy : j = y
      · subst hjy
        rw [upd_same] at u3
        generalize F0 j = x at u1
        clear G1 G2 G3 G4
        go_wp2
        go_round
        case rel => exact ⟨j + 1, by omega, by go_num⟩
        case measure => simp [intOf]; omega
      · rw [upd_other _ _ hjy] at u3
        generalize F0 j = x at u1 u3
        have hjy' : ((j : Int) == (y : Int)) = false := by rw [beq_eq_false_iff_ne]; omega
        clear G1 G2 G3 G4
        go_wp2
        go_round
        case rel => exact ⟨j + 1, by omega, by go_num⟩
        case measure => simp [intOf]; omega
    · have e : n0 = j := by omega
      subst e
      clear hjn hj G1 G3
      go_wp2
      go_loop [21] (fun i => ∃ j : Nat, j ≤ n1 ∧ i = .int .i64 j) (fun i => n1 - (intOf i).toNat)
      case atStart => exact ⟨0, Nat.zero_le _, rfl⟩
      case round =>
        obtain ⟨j, hj, rfl⟩ := hrel
        by_cases hjn : j < n1
        · have u2 := G2.cell hjn
          have u4 := G4.cell hjn
          by_cases hjy : j = wi
          · subst hjy
            rw [upd_same] at u4
            clear u2 G2 G4
            go_wp2
            go_round
            case rel => exact ⟨j + 1, by omega, by go_num⟩
            case measure => simp [intOf]; omega
          · rw [upd_other _ _ hjy] at u4
            generalize F1 j = x at u2 u4
            have hjy' : ((j : Int) == (wi : Int)) = false := by rw [beq_eq_false_iff_ne]; omega
            clear G2 G4
            go_wp2
            go_round
            case rel => exact ⟨j + 1, by omega, by go_num⟩
            case measure => simp [intOf]; omega
        · have e : n1 = j := by omega
          subst e
          clear hjn hj G2 G4
          go_wp2
          go_ret
          exact ⟨rfl, by rw [HB.out]; exact HBE.out⟩
end Go.Proofs.Qxb6628496a

/-
  THE WALK of 'FnIsPlainStringInsertCount'.
-/
import Derived.Test.Qxb6629057aMath
namespace Go.Proofs.Qxb6629057a
open Go.RowKit
set_option linter.unusedVariables false

theorem info5 : (Try.prog.info? 5).map (fun i => (i.zero, i.size, i.bytes)) = some (some (.int .u8 0), 1, 1) := by kernel_rfl
theorem size5 : (Try.prog.info? 5).map (·.size) = some 1 := by kernel_rfl

set_option maxHeartbeats 1000000 in
set_option maxRecDepth 100000 in
theorem ins_early (a : Option Addr) (n c : Nat) (i : Int) (w : World) (h : 65536 < n ∨ i < 1 ∨ (n : Int) - 1 < i) :
    Calls Try.prog 3 #[.slice a n c, .int .i64 i] w fun e w' => e = .returned (.bool true) ∧ Below w.heap.size w w' := by
  by_cases h1 : 1048576 < n
  · clear h
    go_enter Try.func3, Try.ntmps3
    go_wp2_with (go_at_call 5; refine (bytes5_no a n c i _ h1).mono ?_; rintro e w ⟨rfl, rfl⟩)
    go_ret
    exact ⟨rfl, Below.refl _ _⟩
  by_cases h2 : 65536 < n
  · clear h
    go_enter Try.func3, Try.ntmps3
    go_wp2_with (go_at_call 5; refine (bytes5_yes a n c i _ (by omega)).mono ?_; rintro e w ⟨rfl, rfl⟩)
    go_ret
    exact ⟨rfl, Below.refl _ _⟩
  by_cases h3 : i < 1
  · clear h
    go_enter Try.func3, Try.ntmps3
    go_wp2_with (go_at_call 5; refine (bytes5_yes a n c i _ (by omega)).mono ?_; rintro e w ⟨rfl, rfl⟩)
    go_ret
    exact ⟨rfl, Below.refl _ _⟩
  · have h4 : (n : Int) - 1 < i := by omega
    clear h
    go_enter Try.func3, Try.ntmps3
    go_wp2_with (go_at_call 5; refine (bytes5_yes a n c i _ (by omega)).mono ?_; rintro e w ⟨rfl, rfl⟩)
    go_ret
    exact ⟨rfl, Below.refl _ _⟩

set_option maxHeartbeats 2000000 in
set_option maxRecDepth 100000 in
theorem ins_main (a : Option Addr) (n c p : Nat) (F : Nat → Int) (w : World) (hI : Inp .u8 w a n F) (hn : n ≤ 65536) (hp : 1 ≤ p) (hp2 : p + 1 ≤ n) (hc : n ≤ c) :
    Calls Try.prog 3 #[.slice a n c, .int .i64 (p : Int)] w fun e w' => e = .returned (.bool true) ∧ Below w.heap.size w w' := by
  obtain ⟨i0, hi, hz0, hz1, hz2⟩ := info_parts info5
  obtain ⟨b, off, rfl, hcx⟩ := hI.at (i := 0) (by omega)
  have q : ∀ (w : World) (a : Option Addr) (n c n' c' : Nat), (binOp .neq 22 (.slice a n c) (.slice none n' c')).run Try.prog w = .ok (.bool (!a.isNone)) w := fun w a n c n' c' => run_neq_slice_nil_any w _ _ a n c n' c' Try.underlying22
  clear hcx
  go_enter Try.func3, Try.ntmps3
  go_wp2_with (first | (go_at_call 5; refine (bytes5_yes _ n c _ _ (by omega)).mono ?_; rintro e w ⟨rfl, rfl⟩) | (at_make; refine wpList_make_arr _ rfl _ _ 22 rfl 5 i0 .u8 Try.underlying22 hi hz0 hz1 .i64 .i64 _ _ n rfl rfl rfl rfl (by omega) (by omega) ?_))
  intro w0 hK0 hs0 hA0 hR0
  clear q
  obtain ⟨B, hB⟩ : ∃ B, w.heap.size = B := ⟨_, rfl⟩
  rw [hB] at hs0 hA0 hR0 ⊢
  have HB : Hid (w.heap.size = B) := hB
  have HS0 : Hid (w0.heap.size = B + 1) := hs0
  have HR0 : Hid (Rw w0 B n) := hR0
  clear hB hs0 hA0 hR0
  obtain ⟨w1, hrun, hK1, hs1, hD1⟩ := run_copy_arr w0 22 3 5 Try.underlying22 size5 .u8 B n n c _ F HR0.out (hI.below (Keep.below (Below.refl _ _) hK0 (Nat.le_refl _) (fun b hb => by cases hb)))
  have HS1 : Hid (w1.heap.size = B + 1) := by show w1.heap.size = B + 1; rw [hs1]; exact HS0.out
  have hb1 : Below B w w1 := hK1.below (hK0.below (Below.refl _ _) (by rw [HB.out]; exact Nat.le_refl _) (fun b hb => by cases hb)) (by have := HS0.out; omega) (fun b hb => by simp at hb; omega)
  clear hs1 hK1 hK0 hI
  go_wp2_with (at_make; refine wpList_make_arr _ rfl _ _ 22 rfl 5 i0 .u8 Try.underlying22 hi hz0 hz1 .i64 .i64 _ _ 3 rfl rfl rfl rfl (by omega) (by omega) ?_)
  intro w2 hK2 hs2 hA2 hR2
  rw [HS1.out] at hs2 hA2 ⊢
  have HS2 : Hid (w2.heap.size = B + 2) := hs2
  have hb2 : Below B w w2 := hK2.below hb1 (by have := HS1.out; omega) (fun b hb => by cases hb)
  have hD2 : Arr .u8 w2 B n F := hD1.keep hK2 (by have := HS1.out; omega) (by simp)
  have u0 := hA2.cell (j := 0) (by omega)
  have u2 := hA2.cell (j := 2) (by omega)
  have v0 := hA2.free (j := 0) (by omega)
  have v2 := hA2.free (j := 2) (by omega)
  clear hrun hs2 hK2 hR2 hD1 hb1
  go_wp2
  have hO : Arr .u8 ((w2.setCell ⟨B + 1, 0, none⟩ (.int .u8 34)).setCell ⟨B + 1, 2, none⟩ (.int .u8 34)) (B + 1) 3 (one 0) := ((hA2.set (i := 0) (by omega) 34).set (i := 2) (by omega) 34).congr (fun t ht => by
    obtain rfl | rfl | rfl : t = 0 ∨ t = 1 ∨ t = 2 := by omega
    · rfl
    · rfl
    · rfl)
  have hD : Arr .u8 ((w2.setCell ⟨B + 1, 0, none⟩ (.int .u8 34)).setCell ⟨B + 1, 2, none⟩ (.int .u8 34)) B n F := (hD2.other (by show B + 1 ≠ B; omega) _).other (by show B + 1 ≠ B; omega) _
  have hb : Below B w ((w2.setCell ⟨B + 1, 0, none⟩ (.int .u8 34)).setCell ⟨B + 1, 2, none⟩ (.int .u8 34)) := (hb2.setCell (by show B ≤ B + 1; omega) _).setCell (by show B ≤ B + 1; omega) _
  clear u0 u2 v0 v2 hA2 hD2 hb2
  go_loopw [7, 8] (fun kv i wr => ∃ (m : Nat) (y : Int), m ≤ 256 ∧ i = .int .i64 m ∧ kv = .int .i64 (kc m : Nat) ∧ Arr .u8 wr (B + 1) 3 (one y) ∧ Arr .u8 wr B n F ∧ Below B w wr ∧ wr.heap.size = B + 2) (fun _ i _ => 256 - (intOf i).toNat)
  case atStart => exact ⟨0, 0, by omega, rfl, rfl, hO, hD, hb, by simpa using HS2.out⟩
  case round =>
    obtain ⟨m, y, hm, rfl, rfl, hO', hD', hb', hs⟩ := hrel
    have HSr : Hid (wr.heap.size = B + 2) := hs
    clear hs hO hD hb
    have hkl := kc_le m
    by_cases hmn : m < 256
    · have hwr : IntKind.u8.wrap (m : Int) = m := by rw [IntKind.wrap_u8]; omega
      have u1 := hO'.cell (j := 1) (by omega)
      have v1 := hO'.free (j := 1) (by omega)
      have tO := (hO'.set (i := 1) (by omega) (m : Int)).congr (g := one m) (fun t _ => one_upd _ _ _)
      have tD := hD'.other (p := ⟨B + 1, 1, none⟩) (by show B + 1 ≠ B; omega) (.int .u8 (m : Int))
      have tb : Below B w (wr.setCell ⟨B + 1, 1, none⟩ (.int .u8 (m : Int))) := hb'.setCell (by show B ≤ B + 1; omega) _
      clear hO' hD' hb'
      cases ho : okB (m : Int) with
      | true =>
        have HK : Hid (kc (m + 1) = kc m + 1) := kc_yes ho
        have hpo : plainB 3 (one m) = true := by rw [plain_one]; exact ho
        have HPO : Hid (plainB 3 (one m) = true) := hpo
        clear ho hpo
        go_wp2_with (go_at_call 6; refine (plain6_arr (B + 1) 3 3 (one m) _ tO (by omega) (by omega) HPO.out).mono ?_; rintro e w3 ⟨rfl, rfl⟩)
        go_roundw
        case rel => exact ⟨m + 1, m, by omega, by go_num, by rw [HK.out]; go_num, tO, tD, tb, by simpa using HSr.out⟩
        case measure => simp [intOf]; omega
      | false =>
        have HK : Hid (kc (m + 1) = kc m) := kc_no ho
        have hpo : plainB 3 (one m) = false := by rw [plain_one]; exact ho
        have HPO : Hid (plainB 3 (one m) = false) := hpo
        clear ho hpo
        go_wp2_with (go_at_call 6; refine (plain6_arr (B + 1) 3 3 (one m) _ tO (by omega) (by omega) HPO.out).mono ?_; rintro e w3 ⟨rfl, rfl⟩)
        go_roundw
        case rel => exact ⟨m + 1, m, by omega, by go_num, by rw [HK.out], tO, tD, tb, by simpa using HSr.out⟩
        case measure => simp [intOf]; omega
    · have e : 256 = m := by omega
      subst e
      rw [kc_all]
      clear hmn hm hkl hO'
      go_wp2_with (at_make; refine wpList_make_arr _ rfl _ _ 22 rfl 5 i0 .u8 Try.underlying22 hi hz0 hz1 .i64 .i64 _ _ (n + 1) rfl rfl (by omega) (by omega) (by omega) (by omega) ?_)
      intro w4 hK4 hs4 hA4 hR4
      rw [HSr.out] at hs4 hA4 ⊢
      have HS4 : Hid (w4.heap.size = B + 3) := hs4
      have hb4 : Below B w w4 := hK4.below hb' (by have := HSr.out; omega) (fun b hb => by cases hb)
      have hD4 : Arr .u8 w4 B n F := hD'.keep hK4 (by have := HSr.out; omega) (by simp)
      clear hs4 hK4 hR4 hD' hb'
      go_wp2
      go_loopw [10] (fun i wr => ∃ j : Nat, j ≤ p ∧ i = .int .i64 j ∧ Arr .u8 wr (B + 2) (n + 1) (buf2 F j) ∧ Arr .u8 wr B n F ∧ Below B w wr) (fun i _ => p - (intOf i).toNat)
      case atStart => exact ⟨0, by omega, rfl, hA4.congr (fun t _ => by simp [buf2]), hD4, hb4⟩
      case round =>
        obtain ⟨j, hj, rfl, hB5, hD5, hb5⟩ := hrel
        clear hA4 hD4 hb4
        by_cases hjp : j < p
        · have u1 := hD5.cell (j := j) (by omega)
          have u2 := hB5.cell (j := j) (by omega)
          have v2 := hB5.free (j := j) (by omega)
          have tB := (hB5.set (i := j) (by omega) (F j)).congr (g := buf2 F (j + 1)) (fun t _ => buf2_step _ _ _)
          have tD := hD5.other (p := ⟨B + 2, j, none⟩) (by show B + 2 ≠ B; omega) (.int .u8 (F j))
          have tb : Below B w (wr.setCell ⟨B + 2, j, none⟩ (.int .u8 (F j))) := hb5.setCell (by show B ≤ B + 2; omega) _
          generalize F j = x at u1 tB tD tb
          generalize buf2 F j j = yy at u2
          clear hB5 hD5 hb5
          go_wp2
          go_roundw
          case rel => exact ⟨j + 1, by omega, by go_num, tB, tD, tb⟩
          case measure => simp [intOf]; omega
        · have e : p = j := by omega
          subst e
          clear hjp hj
          have hB5' := hB5.congr (g := buf3 F p p) (fun t _ => buf3_start _ _ _)
          clear hB5
          go_wp2
          go_loopw [11] (fun i wr => ∃ j : Nat, p ≤ j ∧ j ≤ n ∧ i = .int .i64 j ∧ Arr .u8 wr (B + 2) (n + 1) (buf3 F p j) ∧ Arr .u8 wr B n F ∧ Below B w wr) (fun i _ => n - (intOf i).toNat)
          case atStart => exact ⟨p, by omega, by omega, rfl, hB5', hD5, hb5⟩
          case round =>
            obtain ⟨j, hpj, hj, rfl, hB6, hD6, hb6⟩ := hrel
            clear hB5' hD5 hb5
            by_cases hjn : j < n
            · have u1 := hD6.cell (j := j) (by omega)
              have u2 := hB6.cell (j := j + 1) (by omega)
              have v2 := hB6.free (j := j + 1) (by omega)
              have tB := (hB6.set (i := j + 1) (by omega) (F j)).congr (g := buf3 F p (j + 1)) (fun t _ => buf3_step _ _ _ _ hpj)
              have tD := hD6.other (p := ⟨B + 2, j + 1, none⟩) (by show B + 2 ≠ B; omega) (.int .u8 (F j))
              have tb : Below B w (wr.setCell ⟨B + 2, j + 1, none⟩ (.int .u8 (F j))) := hb6.setCell (by show B ≤ B + 2; omega) _
              generalize F j = x at u1 tB tD tb
              generalize buf3 F p j (j + 1) = yy at u2
              clear hB6 hD6 hb6
              go_wp2
              go_roundw
              case rel => exact ⟨j + 1, by omega, by omega, by go_num, tB, tD, tb⟩
              case measure => simp [intOf]; omega
            · have e : n = j := by omega
              subst e
              clear hjn hj hpj
              have hB7 := hB6.congr (g := ins F p 0) (fun t ht => (buf3_end F p n t ht).symm)
              have hD7 := hD6
              have hb7 := hb6
              clear hB6 hD6 hb6
              go_wp2
              cases hP : plainB n F with
              | true =>
              have HP : Hid (plainB n F = true) := hP
              clear hP
              go_loopw [12, 13] (fun cv i wr => ∃ (m : Nat) (y : Int), m ≤ 256 ∧ i = .int .i64 m ∧ cv = .int .i64 ((kc m : Nat) : Int) ∧ Arr .u8 wr (B + 2) (n + 1) (ins F p y) ∧ Arr .u8 wr B n F ∧ Below B w wr) (fun _ i _ => 256 - (intOf i).toNat)
              case atStart => exact ⟨0, 0, by omega, rfl, rfl, hB7, hD7, hb7⟩
              case round =>
                obtain ⟨m, y, hm, rfl, rfl, hB8, hD8, hb8⟩ := hrel
                clear hB7 hD7 hb7
                have hkl := kc_le m
                by_cases hmn : m < 256
                · have hwr : IntKind.u8.wrap (m : Int) = m := by rw [IntKind.wrap_u8]; omega
                  have u1 := hB8.cell (j := p) (by omega)
                  have v1 := hB8.free (j := p) (by omega)
                  have tB := (hB8.set (i := p) (by omega) (m : Int)).congr (g := ins F p m) (fun t _ => ins_upd _ _ _ _ _)
                  have tD := hD8.other (p := ⟨B + 2, p, none⟩) (by show B + 2 ≠ B; omega) (.int .u8 (m : Int))
                  have tb : Below B w (wr.setCell ⟨B + 2, p, none⟩ (.int .u8 (m : Int))) := hb8.setCell (by show B ≤ B + 2; omega) _
                  have HPI := plain_ins F n p m hp hp2
                  rw [HP.out] at HPI
                  have HPJ : Hid (plainB (n + 1) (ins F p m) = (true && okB m)) := HPI
                  generalize ins F p y p = yy at u1
                  clear hB8 hD8 hb8 HPI
                  cases ho : okB (m : Int) with
                  | true =>
                    have HK : Hid (kc (m + 1) = kc m + 1) := kc_yes ho
                    have HPO : Hid (plainB (n + 1) (ins F p m) = true) := by rw [Hid, HPJ.out, ho]; rfl
                    clear ho
                    go_wp2_with (go_at_call 6; refine (plain6_arr (B + 2) (n + 1) (n + 1) (ins F p m) _ tB (by omega) (by omega) HPO.out).mono ?_; rintro e w3 ⟨rfl, rfl⟩)
                    go_roundw
                    case rel => exact ⟨m + 1, m, by omega, by go_num, by rw [HK.out]; go_num, tB, tD, tb⟩
                    case measure => simp [intOf]; omega
                  | false =>
                    have HK : Hid (kc (m + 1) = kc m) := kc_no ho
                    have HPO : Hid (plainB (n + 1) (ins F p m) = false) := by rw [Hid, HPJ.out, ho]; rfl
                    clear ho
                    go_wp2_with (go_at_call 6; refine (plain6_arr (B + 2) (n + 1) (n + 1) (ins F p m) _ tB (by omega) (by omega) HPO.out).mono ?_; rintro e w3 ⟨rfl, rfl⟩)
                    go_roundw
                    case rel => exact ⟨m + 1, m, by omega, by go_num, by rw [HK.out], tB, tD, tb⟩
                    case measure => simp [intOf]; omega
                · have e : 256 = m := by omega
                  subst e
                  rw [kc_all]
                  clear hmn hm hkl hB8
                  go_wp2_with (go_at_call 6; refine (plain6_arr B n n F _ hD8 (by omega) (by omega) HP.out).mono ?_; rintro e w3 ⟨rfl, rfl⟩)
                  go_ret
                  exact ⟨rfl, by rw [HB.out]; exact hb8⟩
              | false =>
              have HP : Hid (plainB n F = false) := hP
              clear hP
              go_loopw [12, 13] (fun cv i wr => ∃ (m : Nat) (y : Int), m ≤ 256 ∧ i = .int .i64 m ∧ cv = .int .i64 (0 : Int) ∧ Arr .u8 wr (B + 2) (n + 1) (ins F p y) ∧ Arr .u8 wr B n F ∧ Below B w wr) (fun _ i _ => 256 - (intOf i).toNat)
              case atStart => exact ⟨0, 0, by omega, rfl, rfl, hB7, hD7, hb7⟩
              case round =>
                obtain ⟨m, y, hm, rfl, rfl, hB8, hD8, hb8⟩ := hrel
                clear hB7 hD7 hb7
                have hkl := kc_le m
                by_cases hmn : m < 256
                · have hwr : IntKind.u8.wrap (m : Int) = m := by rw [IntKind.wrap_u8]; omega
                  have u1 := hB8.cell (j := p) (by omega)
                  have v1 := hB8.free (j := p) (by omega)
                  have tB := (hB8.set (i := p) (by omega) (m : Int)).congr (g := ins F p m) (fun t _ => ins_upd _ _ _ _ _)
                  have tD := hD8.other (p := ⟨B + 2, p, none⟩) (by show B + 2 ≠ B; omega) (.int .u8 (m : Int))
                  have tb : Below B w (wr.setCell ⟨B + 2, p, none⟩ (.int .u8 (m : Int))) := hb8.setCell (by show B ≤ B + 2; omega) _
                  have HPI := plain_ins F n p m hp hp2
                  rw [HP.out] at HPI
                  have HPJ : Hid (plainB (n + 1) (ins F p m) = (false && okB m)) := HPI
                  generalize ins F p y p = yy at u1
                  clear hB8 hD8 hb8 HPI
                  cases ho : okB (m : Int) with
                  | true =>
                    have HK : Hid (kc (m + 1) = kc m + 1) := kc_yes ho
                    have HPO : Hid (plainB (n + 1) (ins F p m) = false) := by rw [Hid, HPJ.out, ho]; rfl
                    clear ho
                    go_wp2_with (go_at_call 6; refine (plain6_arr (B + 2) (n + 1) (n + 1) (ins F p m) _ tB (by omega) (by omega) HPO.out).mono ?_; rintro e w3 ⟨rfl, rfl⟩)
                    go_roundw
                    case rel => exact ⟨m + 1, m, by omega, by go_num, rfl, tB, tD, tb⟩
                    case measure => simp [intOf]; omega
                  | false =>
                    have HK : Hid (kc (m + 1) = kc m) := kc_no ho
                    have HPO : Hid (plainB (n + 1) (ins F p m) = false) := by rw [Hid, HPJ.out, ho]; rfl
                    clear ho
                    go_wp2_with (go_at_call 6; refine (plain6_arr (B + 2) (n + 1) (n + 1) (ins F p m) _ tB (by omega) (by omega) HPO.out).mono ?_; rintro e w3 ⟨rfl, rfl⟩)
                    go_roundw
                    case rel => exact ⟨m + 1, m, by omega, by go_num, rfl, tB, tD, tb⟩
                    case measure => simp [intOf]; omega
                · have e : 256 = m := by omega
                  subst e
                  clear hmn hm hkl hB8
                  go_wp2_with (go_at_call 6; refine (plain6_arr B n n F _ hD8 (by omega) (by omega) HP.out).mono ?_; rintro e w3 ⟨rfl, rfl⟩)
                  go_ret
                  exact ⟨rfl, by rw [HB.out]; exact hb8⟩

end Go.Proofs.Qxb6629057a

/-
  THE WALK of 'FnOneOfCutAndInsert': the cut at the list's end, outside it; the nil list.
-/
import Derived.Test.Qxb6629087aCut
namespace Go.Proofs.Qxb6629087a
open Go.RowKit
set_option linter.unusedVariables false

theorem ins_inp0 {w : World} {base e g p cap : Nat} {f : Nat → ByteArray} {t : ByteArray}
    (own : w.ownsRow base e 1 (.slice (some ⟨g, 0, none⟩) (p + 1) cap) (p + 1) ((List.range p).map (fun j => Value.string (f j)) ++ [.string t])) :
    ∃ S' : Nat → ByteArray, S' p = t ∧ Inp w (some ⟨g, 0, none⟩) (p + 1) S' :=
  ins_inp (m := 0) (h := f) own (by omega)

set_option maxHeartbeats 2000000 in
set_option maxRecDepth 100000 in
/-- The cut stands at the list's end. -/
theorem cut_eq (t : ByteArray) (x : Addr) (n c : Nat) (S : Nat → ByteArray) (w : World) (hI : Inp w (some x) n S) :
    Calls Try.prog 3 #[.string t, .slice (some x) n c, .int .i64 (n : Int)] w fun e w' => e = .returned (.bool true) ∧ Below w.heap.size w w' := by
  obtain ⟨i0, hi, hz0, hz1, hz2⟩ := info_parts info27
  obtain ⟨L, hL⟩ : ∃ L, memB t S n = L := ⟨_, rfl⟩
  have HL : Hid (memB t S n = L) := hL
  clear hL
  go_enter Try.func3, Try.ntmps3
  go_wp2_with fail
  refine (bytes5 t _ n c _ S _ hI).mono ?_
  rintro e w ⟨⟨r, rfl, hr⟩, rfl⟩
  cases r with
  | false =>
    clear hr
    go_wp2
    go_ret
    exact ⟨rfl, Below.refl _ _⟩
  | true =>
  obtain ⟨z1, z2, z3⟩ := hr rfl
  go_wp2_with fail
  refine (tooBig6 t _ n c S _ hI z1 z2 z3).mono ?_
  rintro e w ⟨⟨r, rfl, hr⟩, rfl⟩
  cases r with
  | true =>
    clear hr
    go_wp2
    go_ret
    exact ⟨rfl, Below.refl _ _⟩
  | false =>
  have z4 := hr rfl
  clear hr z3
  go_wp2_with fail
  obtain ⟨B, hB⟩ : ∃ B, w.heap.size = B := ⟨_, rfl⟩
  have HB : Hid (w.heap.size = B) := hB
  refine (types7 x n c S _ hI (by omega)).mono ?_
  rintro e w1 ⟨rfl, k1, t4, A1⟩
  rw [hB] at t4 A1 ⊢
  have HS1 : Hid (w1.heap.size = B + 1) := t4
  have hb1 : Below B w w1 := k1.below (Below.refl _ _) (by rw [HB.out]; exact Nat.le_refl _) (fun b hb => by cases hb)
  clear t4 k1 hB hI
  go_wp2_with fail
  refine (oneOf8_r t _ n n S _ A1.inp (by omega) HL.out).mono ?_
  rintro e w2 ⟨rfl, hw2⟩
  subst hw2
  go_wp2_with fail
  refine (oneOf8_r t _ n n S _ A1.inp (by omega) HL.out).mono ?_
  rintro e w3 ⟨rfl, hw3⟩
  subst hw3
  go_wp2_with fail
  refine (oneOf8_r t _ 0 0 S _ (fun h => absurd h (Nat.lt_irrefl 0)) (by omega) (r := false) rfl).mono ?_
  rintro e w4 ⟨rfl, hw4⟩
  subst hw4
  have HA : Hid (Arr w4 B n S) := A1
  clear A1
  go_wp2_with (at_make; refine wpList_make_own _ rfl _ _ 25 rfl (B + 1) 27 i0 (.string ByteArray.empty) 1 Try.underlying25 hi hz0 hz1 .i64 .i64 _ (n + 1) rfl rfl (by omega) ?b2 ?b3 ?b4 ?_)
  case b2 => rw [hz2]; omega
  case b3 => unfold maxLen; omega
  case b4 => have := HS1.out; omega
  intro w5 own5 grow5
  rw [HS1.out] at own5 ⊢
  have A5 : Arr w5 B n S := HA.out.grown grow5 (by have := HS1.out; omega) (fun h => by cases h)
  have hb5 : Below B w w5 := hb1.grown grow5 (by have := HS1.out; omega) (fun k h => by cases h)
  have hs5 : B + 1 ≤ w5.heap.size := by have := grow5.size; have := HS1.out; omega
  clear hb1 grow5
  go_wp2_with (at_builtin; refine wpList_append_fits_any _ rfl (.tmp 49) (.tmp 52) 25 rfl (B + 1) 27 i0 1 Try.underlying25 hi hz1 (B + 1) 0 (n + 1) [] rfl own5 (some ⟨B, 0, none⟩) n n ((List.range n).map fun j => .string (S j)) rfl ?c1 ?c2 ?c3 ?c4 ?c5 ?_)
  case c1 => simp
  case c2 => intro h; cases h
  case c3 => exact cells_of_arr A5 (by omega)
  case c4 => exact strs_oneCell _ _
  case c5 => omega
  intro w6 own6 grow6
  have hb6 : Below B w w6 := hb5.grown grow6 (by omega) (fun k h => by cases h; omega)
  have hs6 : B + 1 ≤ w6.heap.size := Nat.le_trans hs5 grow6.size
  clear hb5 grow6 own5 A5 hs5 HA
  obtain ⟨X1, hX1⟩ : ∃ X1, X1 = (List.range n).map fun j => Value.string (S j) := ⟨_, rfl⟩
  rw [← hX1] at own6
  have HX1 : Hid (X1 = (List.range n).map fun j => Value.string (S j)) := hX1
  clear hX1
  go_wp2_with (at_builtin; refine wpList_append_fits _ rfl (.tmp 54) (.tmp 56) 25 rfl (B + 1) 27 i0 1 Try.underlying25 hi hz1 (B + 1) n (n + 1) X1 rfl (own6.alloc _) ⟨w6.heap.size, 0, none⟩ 1 1 [.string t] rfl rfl ?d1 ?d2 ?d3 ?_)
  case d1 =>
    intro j u hj
    match j, hj with
    | 0, hj => simp at hj; subst hj; simp [Addr.add]
  case d2 => intro u hu; simp at hu; subst hu; rfl
  case d3 => omega
  intro w7 own7 grow7
  have hb7 : Below B w w7 := (hb6.alloc (by omega) _).grown grow7 (by simp; omega) (fun k h => by cases h; omega)
  have hs7 : B + 1 ≤ w7.heap.size := by have := grow7.size; simp at this; omega
  clear hb6 grow7 own6 hs6
  go_wp2_with (at_builtin; refine wpList_append_fits_any _ rfl (.tmp 58) (.tmp 61) 25 rfl (B + 1) 27 i0 1 Try.underlying25 hi hz1 (B + 1) (n + 1) (n + 1) (X1 ++ [.string t]) rfl own7 (some ⟨B, 0, none⟩) 0 0 [] rfl ?c1 ?c2 ?c3 ?c4 ?c5 ?_)
  case c1 => simp
  case c3 => intro ad _ j u hj; simp at hj
  case c4 => intro u hu; simp at hu
  case c5 => omega
  intro w8 own8 grow8
  have hb8 : Below B w w8 := hb7.grown grow8 (by omega) (fun k h => by cases h; omega)
  clear hb7 own7 hs7
  rw [HX1.out] at own8
  obtain ⟨S', hS', hI'⟩ := ins_inp0 own8
  have HM : Hid (memB t S' (n + 1) = true) := memB_hit (j := n) (by omega) (by rw [hS']; simp)
  clear own8 grow8 hS' HX1
  cases L
  all_goals
    go_wp2_with (go_at_call 8; refine (oneOf8_r t _ (n + 1) (n + 1) S' _ hI' (by omega) HM.out).mono ?_; rintro e w9 ⟨rfl, hw9⟩; subst hw9)
    go_ret
    exact ⟨rfl, by rw [HB.out]; exact hb8⟩

set_option maxHeartbeats 2000000 in
set_option maxRecDepth 100000 in
/-- The cut lies outside the list. -/
theorem cut_early (t : ByteArray) (a : Option Addr) (n c : Nat) (p : Int) (S : Nat → ByteArray) (w : World) (hI : Inp w a n S) (hp : p < 0 ∨ (n : Int) < p) :
    Calls Try.prog 3 #[.string t, .slice a n c, .int .i64 p] w fun e w' => e = .returned (.bool true) ∧ Below w.heap.size w w' := by
  by_cases h1 : p < 0
  · clear hp
    go_enter Try.func3, Try.ntmps3
    go_wp2_with fail
    refine (bytes5 t a n c _ S _ hI).mono ?_
    rintro e w ⟨⟨r, rfl, hr⟩, rfl⟩
    cases r with
    | false =>
      clear hr
      go_wp2
      go_ret
      exact ⟨rfl, Below.refl _ _⟩
    | true =>
    obtain ⟨z1, z2, z3⟩ := hr rfl
    go_wp2_with fail
    refine (tooBig6 t a n c S _ hI z1 z2 z3).mono ?_
    rintro e w ⟨⟨r, rfl, hr⟩, rfl⟩
    cases r with
    | true =>
      clear hr
      go_wp2
      go_ret
      exact ⟨rfl, Below.refl _ _⟩
    | false =>
    clear hr z3
    go_wp2
    go_ret
    exact ⟨rfl, Below.refl _ _⟩
  · have h2 : (n : Int) < p := by omega
    clear hp
    go_enter Try.func3, Try.ntmps3
    go_wp2_with fail
    refine (bytes5 t a n c _ S _ hI).mono ?_
    rintro e w ⟨⟨r, rfl, hr⟩, rfl⟩
    cases r with
    | false =>
      clear hr
      go_wp2
      go_ret
      exact ⟨rfl, Below.refl _ _⟩
    | true =>
    obtain ⟨z1, z2, z3⟩ := hr rfl
    go_wp2_with fail
    refine (tooBig6 t a n c S _ hI z1 z2 z3).mono ?_
    rintro e w ⟨⟨r, rfl, hr⟩, rfl⟩
    cases r with
    | true =>
      clear hr
      go_wp2
      go_ret
      exact ⟨rfl, Below.refl _ _⟩
    | false =>
    clear hr z3
    go_wp2
    go_ret
    exact ⟨rfl, Below.refl _ _⟩

set_option maxHeartbeats 2000000 in
set_option maxRecDepth 100000 in
/-- The nil list. -/
theorem cut_nil (t : ByteArray) (w : World) :
    Calls Try.prog 3 #[.string t, .slice none 0 0, .int .i64 0] w fun e w' => e = .returned (.bool true) ∧ Below w.heap.size w w' := by
  obtain ⟨i0, hi, hz0, hz1, hz2⟩ := info_parts info27
  have hI : ∀ w, Inp w none 0 (fun _ => ByteArray.empty) := fun w h => absurd h (Nat.lt_irrefl 0)
  have HI : Hid (∀ w, Inp w none 0 (fun _ => ByteArray.empty)) := hI
  clear hI
  go_enter Try.func3, Try.ntmps3
  go_wp2_with fail
  refine (bytes5 t none 0 0 _ (fun _ => ByteArray.empty) _ (HI.out _)).mono ?_
  rintro e w ⟨⟨r, rfl, hr⟩, rfl⟩
  cases r with
  | false =>
    clear hr
    go_wp2
    go_ret
    exact ⟨rfl, Below.refl _ _⟩
  | true =>
  obtain ⟨z1, z2, z3⟩ := hr rfl
  go_wp2_with fail
  refine (tooBig6 t none 0 0 (fun _ => ByteArray.empty) _ (HI.out _) z1 z2 z3).mono ?_
  rintro e w ⟨⟨r, rfl, hr⟩, rfl⟩
  cases r with
  | true =>
    clear hr
    go_wp2
    go_ret
    exact ⟨rfl, Below.refl _ _⟩
  | false =>
  clear hr z1 z2 z3
  go_wp2_with fail
  refine (types7_nil _).mono ?_
  rintro e w1 ⟨rfl, hw1⟩
  subst hw1
  go_wp2_with fail
  refine (oneOf8_r t none 0 0 (fun _ => ByteArray.empty) _ (HI.out _) (by omega) (r := false) rfl).mono ?_
  rintro e w2 ⟨rfl, hw2⟩
  subst hw2
  go_wp2_with fail
  refine (oneOf8_r t none 0 0 (fun _ => ByteArray.empty) _ (HI.out _) (by omega) (r := false) rfl).mono ?_
  rintro e w3 ⟨rfl, hw3⟩
  subst hw3
  go_wp2_with fail
  refine (oneOf8_r t none 0 0 (fun _ => ByteArray.empty) _ (HI.out _) (by omega) (r := false) rfl).mono ?_
  rintro e w4 ⟨rfl, hw4⟩
  subst hw4
  obtain ⟨B, hB⟩ : ∃ B, w4.heap.size = B := ⟨_, rfl⟩
  have HB : Hid (w4.heap.size = B) := hB
  clear hB
  go_wp2_with (at_make; refine wpList_make_own _ rfl _ _ 25 rfl B 27 i0 (.string ByteArray.empty) 1 Try.underlying25 hi hz0 hz1 .i64 .i64 _ 1 rfl rfl (by omega) ?b2 ?b3 ?b4 ?_)
  case b2 => rw [hz2]; omega
  case b3 => unfold maxLen; omega
  case b4 => have := HB.out; omega
  intro w5 own5 grow5
  rw [HB.out] at own5 ⊢
  have hb5 : Below B w4 w5 := (Below.refl _ _).grown grow5 (by have := HB.out; omega) (fun k h => by cases h)
  have hs5 : B ≤ w5.heap.size := by have := grow5.size; have := HB.out; omega
  clear grow5
  go_wp2_with (at_builtin; refine wpList_append_fits_any _ rfl (.tmp 49) (.tmp 52) 25 rfl B 27 i0 1 Try.underlying25 hi hz1 B 0 1 [] rfl own5 none 0 0 [] rfl ?c1 ?c2 ?c3 ?c4 ?c5 ?_)
  case c1 => simp
  case c3 => intro ad _ j u hj; simp at hj
  case c4 => intro u hu; simp at hu
  case c5 => omega
  intro w6 own6 grow6
  have hb6 : Below B w4 w6 := hb5.grown grow6 (by omega) (fun k h => by cases h; omega)
  have hs6 : B ≤ w6.heap.size := Nat.le_trans hs5 grow6.size
  clear hb5 grow6 own5 hs5
  go_wp2_with (at_builtin; refine wpList_append_fits _ rfl (.tmp 54) (.tmp 56) 25 rfl B 27 i0 1 Try.underlying25 hi hz1 B 0 1 [] rfl (own6.alloc _) ⟨w6.heap.size, 0, none⟩ 1 1 [.string t] rfl rfl ?d1 ?d2 ?d3 ?_)
  case d1 =>
    intro j u hj
    match j, hj with
    | 0, hj => simp at hj; subst hj; simp [Addr.add]
  case d2 => intro u hu; simp at hu; subst hu; rfl
  case d3 => omega
  intro w7 own7 grow7
  have hb7 : Below B w4 w7 := (hb6.alloc (by omega) _).grown grow7 (by simp; omega) (fun k h => by cases h; omega)
  have hs7 : B ≤ w7.heap.size := by have := grow7.size; simp at this; omega
  clear hb6 grow7 own6 hs6
  go_wp2_with (at_builtin; refine wpList_append_fits_any _ rfl (.tmp 58) (.tmp 61) 25 rfl B 27 i0 1 Try.underlying25 hi hz1 B 1 1 [.string t] rfl own7 none 0 0 [] rfl ?e1 ?e2 ?e3 ?e4 ?e5 ?_)
  case e1 => simp
  case e3 => intro ad _ j u hj; simp at hj
  case e4 => intro u hu; simp at hu
  case e5 => omega
  intro w8 own8 grow8
  have hb8 : Below B w4 w8 := hb7.grown grow8 (by omega) (fun k h => by cases h; omega)
  clear hb7 own7 hs7
  obtain ⟨S', hS', hI'⟩ := ins_inp0 (p := 0) (f := fun _ => ByteArray.empty) own8
  have HM : Hid (memB t S' 1 = true) := memB_hit (j := 0) (by omega) (by rw [hS']; simp)
  clear own8 grow8 hS'
  go_wp2_with fail
  refine (oneOf8_r t _ 1 1 S' _ hI' (by omega) HM.out).mono ?_
  rintro e w9 ⟨rfl, hw9⟩
  subst hw9
  go_wp2
  go_ret
  exact ⟨rfl, by rw [HB.out]; exact hb8⟩
end Go.Proofs.Qxb6629087a

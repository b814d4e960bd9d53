/-
  THE WALK of 'FnOneOfExactlyWhenRemovalShortens', and her plain law.
-/
import Derived.Test.Qxb6629087aCut
namespace Go.Proofs.Qxb6629087a
open Go.RowKit
set_option linter.unusedVariables false

/-! ### THE PLAIN LAW -/
/-- Of the first m of S those that are not t. -/
def fl (t : ByteArray) (S : Nat → ByteArray) : Nat → List ByteArray
  | 0 => []
  | m + 1 => if (t.toList == (S m).toList) = true then fl t S m else fl t S m ++ [S m]
theorem fl_hit {t : ByteArray} {S : Nat → ByteArray} {m : Nat} (h : (t.toList == (S m).toList) = true) : fl t S (m + 1) = fl t S m := by rw [fl, if_pos h]
theorem fl_miss {t : ByteArray} {S : Nat → ByteArray} {m : Nat} (h : (t.toList == (S m).toList) = false) : fl t S (m + 1) = fl t S m ++ [S m] := by rw [fl, if_neg (by rw [h]; simp)]
theorem fl_le (t : ByteArray) (S : Nat → ByteArray) (m : Nat) : (fl t S m).length ≤ m := by
  induction m with
  | zero => exact Nat.le_refl _
  | succ m ih =>
    cases h : (t.toList == (S m).toList) with
    | true => rw [fl_hit h]; omega
    | false => rw [fl_miss h]; simp; omega
theorem fl_none (t : ByteArray) (S : Nat → ByteArray) (m : Nat) : ∀ x ∈ fl t S m, (t.toList == x.toList) = false := by
  induction m with
  | zero => intro x hx; simp [fl] at hx
  | succ m ih =>
    cases h : (t.toList == (S m).toList) with
    | true => rw [fl_hit h]; exact ih
    | false =>
      rw [fl_miss h]
      intro x hx
      rcases List.mem_append.1 hx with h1 | h1
      · exact ih x h1
      · simp at h1; subst h1; exact h
/-- t was one of them exactly when the taking-out made the list shorter. -/
theorem fl_short (t : ByteArray) (S : Nat → ByteArray) (m : Nat) : memB t S m = decide ((fl t S m).length < m) := by
  induction m with
  | zero => simp [memB]
  | succ m ih =>
    have hl := fl_le t S m
    cases h : (t.toList == (S m).toList) with
    | true =>
      rw [fl_hit h, memB, h, Bool.or_true]
      exact (decide_eq_true (by omega)).symm
    | false =>
      rw [fl_miss h, memB, h, Bool.or_false, ih, Bool.eq_iff_iff]
      simp
theorem memB_none {t : ByteArray} {S : Nat → ByteArray} {n : Nat} (h : ∀ j, j < n → (t.toList == (S j).toList) = false) : memB t S n = false := by
  induction n with
  | zero => rfl
  | succ n ih => rw [memB, ih (fun j hj => h j (by omega)), h n (by omega)]; rfl
theorem fl_mem_none (t : ByteArray) (L : List ByteArray) (h : ∀ x ∈ L, (t.toList == x.toList) = false) : memB t (fun j => L.getD j ByteArray.empty) L.length = false :=
  memB_none (fun j hj => by
    rw [List.getD_eq_getElem?_getD, List.getElem?_eq_getElem hj]
    exact h _ (List.getElem_mem hj))
/-- An owned row of strings as a slice of strings. -/
theorem own_inp {w : World} {base e g cap : Nat} {L : List ByteArray} (own : w.ownsRow base e 1 (.slice (some ⟨g, 0, none⟩) L.length cap) L.length (L.map Value.string)) :
    Inp w (some ⟨g, 0, none⟩) L.length (fun j => L.getD j ByteArray.empty) := fun hn => by
  have hc : ∀ i, i < L.length → w.cell? ⟨g, i, none⟩ = some (.string (L.getD i ByteArray.empty)) := by
    intro i hi
    rw [own.cellAt i (by omega), List.getElem?_map, List.getD_eq_getElem?_getD, List.getElem?_eq_getElem hi]
    rfl
  exact ⟨g, 0, rfl, World.block_lt_of_cell? w _ (hc 0 hn), fun i hi => by rw [Nat.zero_add]; exact hc i hi⟩

set_option maxHeartbeats 2000000 in
set_option maxRecDepth 100000 in
theorem rem_main (t : ByteArray) (x : Addr) (n c : Nat) (S : Nat → ByteArray) (w : World) (hI : Inp w (some x) n S) :
    Calls Try.prog 4 #[.string t, .slice (some x) n c] w fun e w' => e = .returned (.bool true) ∧ Below w.heap.size w w' := by
  obtain ⟨i0, hi, hz0, hz1, hz2⟩ := info_parts info27
  go_enter Try.func4, Try.ntmps4
  go_wp2_with fail
  refine (bytes9 t _ n c S _ hI).mono ?_
  rintro e w ⟨⟨r, rfl, hr⟩, rfl⟩
  cases r with
  | false =>
    clear hr
    go_wp2
    go_ret
    exact ⟨rfl, Below.refl _ _⟩
  | true =>
  obtain ⟨z1, z2, z3⟩ := hr rfl
  go_wp2_with fail
  refine (tooBig6 t _ n c S _ hI z1 z2 z3).mono ?_
  rintro e w ⟨⟨r, rfl, hr⟩, rfl⟩
  cases r with
  | true =>
    clear hr
    go_wp2
    go_ret
    exact ⟨rfl, Below.refl _ _⟩
  | false =>
  have z4 := hr rfl
  clear hr z3
  go_wp2_with fail
  obtain ⟨B, hB⟩ : ∃ B, w.heap.size = B := ⟨_, rfl⟩
  have HB : Hid (w.heap.size = B) := hB
  refine (types7 x n c S _ hI (by omega)).mono ?_
  rintro e w1 ⟨rfl, k1, t4, A1⟩
  rw [hB] at t4 A1 ⊢
  have HS1 : Hid (w1.heap.size = B + 1) := t4
  have hb1 : Below B w w1 := k1.below (Below.refl _ _) (by rw [HB.out]; exact Nat.le_refl _) (fun b hb => by cases hb)
  clear t4 k1 hB
  have HI : Hid (Inp w (some x) n S) := hI
  clear hI
  go_wp2_with (at_make; refine wpList_make_own _ rfl _ _ 25 rfl (B + 1) 27 i0 (.string ByteArray.empty) 1 Try.underlying25 hi hz0 hz1 .i64 .i64 _ n rfl rfl (by omega) ?b2 ?b3 ?b4 ?_)
  case b2 => rw [hz2]; omega
  case b3 => unfold maxLen; omega
  case b4 => have := HS1.out; omega
  intro w5 own5 grow5
  rw [HS1.out] at own5 ⊢
  have A5 : Arr w5 B n S := A1.grown grow5 (by have := HS1.out; omega) (fun h => by cases h)
  have hb5 : Below B w w5 := hb1.grown grow5 (by have := HS1.out; omega) (fun k h => by cases h)
  have hs5 : B + 1 ≤ w5.heap.size := by have := grow5.size; have := HS1.out; omega
  clear hb1 grow5 A1
  go_wp2
  go_loopw [6, 7] (fun v i wr => ∃ j : Nat, j ≤ n ∧ i = .int .i64 j ∧ v = .slice (some ⟨B + 1, 0, none⟩) (fl t S j).length n ∧ wr.ownsRow (B + 1) 27 1 (.slice (some ⟨B + 1, 0, none⟩) (fl t S j).length n) (fl t S j).length ((fl t S j).map Value.string) ∧ Arr wr B n S ∧ Below B w wr ∧ B + 1 ≤ wr.heap.size) (fun _ i _ => n - (intOf i).toNat)
  case atStart => exact ⟨0, Nat.zero_le _, rfl, rfl, own5, A5, hb5, hs5⟩
  case round =>
    obtain ⟨j, hj, rfl, rfl, own, hA, hb, hs⟩ := hrel
    clear own5 A5 hb5 hs5
    have hfl := fl_le t S j
    by_cases hjn : j < n
    · obtain ⟨b, off, hx, hc⟩ := (HI.out.below (by rw [HB.out]; exact hb)).at hjn
      obtain rfl : x = ⟨b, off, none⟩ := by simpa using hx
      clear hx
      cases hq : (t.toList == (S j).toList) with
      | true =>
        have HF : Hid (fl t S (j + 1) = fl t S j) := fl_hit hq
        have htest : ((S j).toList == t.toList) = true := by rw [BEq.comm]; exact hq
        generalize S j = s at hc htest
        clear hq
        go_wp2
        go_roundw
        case rel => exact ⟨j + 1, by omega, by go_num, by rw [HF.out], by rw [HF.out]; exact own, hA, hb, hs⟩
        case measure => simp [intOf]; omega
      | false =>
        have HF : Hid (fl t S (j + 1) = fl t S j ++ [S j]) := fl_miss hq
        have htest : ((S j).toList == t.toList) = false := by rw [BEq.comm]; exact hq
        obtain ⟨s, hsj⟩ : ∃ s, S j = s := ⟨_, rfl⟩
        rw [hsj] at HF htest hc
        clear hq hsj
        obtain ⟨X, hX⟩ : ∃ X, X = fl t S j := ⟨_, rfl⟩
        rw [← hX] at HF own hfl ⊢
        clear hX
        obtain ⟨Y, hY⟩ : ∃ Y, Y = X.map Value.string := ⟨_, rfl⟩
        rw [← hY] at own
        have HY : Hid (Y = X.map Value.string) := hY
        clear hY
        obtain ⟨q, hqq⟩ : ∃ q, X.length = q := ⟨_, rfl⟩
        rw [hqq] at own hfl ⊢
        have HQ : Hid (X.length = q) := hqq
        clear hqq
        go_wp2_with (at_builtin; refine wpList_append_fits _ rfl (.tmp 33) (.tmp 38) 25 rfl (B + 1) 27 i0 1 Try.underlying25 hi hz1 (B + 1) q n Y rfl (own.alloc _) ⟨wr.heap.size, 0, none⟩ 1 1 [.string s] rfl rfl ?d1 ?d2 ?d3 ?_)
        case d1 =>
          intro j u hj
          match j, hj with
          | 0, hj => simp at hj; subst hj; simp [Addr.add]
        case d2 => intro u hu; simp at hu; subst hu; rfl
        case d3 => omega
        intro w7 own7 grow7
        have A7 : Arr w7 B n S := (hA.below (B := B + 1) ((Below.refl _ _).alloc hs _) (by omega)).grown grow7 (by simp; omega) (by simp)
        have hb7 : Below B w w7 := (hb.alloc (by omega) _).grown grow7 (by simp; omega) (fun k h => by cases h; omega)
        have hs7 : B + 1 ≤ w7.heap.size := by have := grow7.size; simp at this; omega
        clear hb grow7 own hs hA
        go_wp2
        go_roundw
        case rel => exact ⟨j + 1, by omega, by go_num, by rw [HF.out, List.length_append, HQ.out]; rfl, by rw [HF.out, List.length_append, HQ.out, List.map_append, ← HY.out]; exact own7, A7, hb7, hs7⟩
        case measure => simp [intOf]; omega
    · have e : n = j := by omega
      subst e
      have HM := fl_short t S n
      have HN : Hid (memB t (fun j => (fl t S n).getD j ByteArray.empty) (fl t S n).length = false) := fl_mem_none t _ (fl_none t S n)
      have hI2 := own_inp own
      obtain ⟨X, hX⟩ : ∃ X, X = fl t S n := ⟨_, rfl⟩
      rw [← hX] at HM HN hI2 hfl ⊢
      clear hX own
      obtain ⟨q, hqq⟩ : ∃ q, X.length = q := ⟨_, rfl⟩
      rw [hqq] at HM HN hI2 hfl ⊢
      clear hqq
      have HM' : Hid (memB t S n = decide (q < n)) := HM
      clear HM
      go_wp2_with fail
      refine (oneOf8_r t _ q n _ _ hI2 (by omega) HN.out).mono ?_
      rintro e w8 ⟨rfl, hw8⟩
      subst hw8
      go_wp2_with fail
      by_cases hlt : q < n
      · refine (oneOf8_r t _ n n S _ hA.inp (by omega) (r := true) (by rw [HM'.out]; exact decide_eq_true hlt)).mono ?_
        rintro e w9 ⟨rfl, hw9⟩
        subst hw9
        have hd : decide ((q : Int) < (n : Int)) = true := decide_eq_true (by omega)
        go_wp2
        go_ret
        exact ⟨rfl, by rw [HB.out]; exact hb⟩
      · refine (oneOf8_r t _ n n S _ hA.inp (by omega) (r := false) (by rw [HM'.out]; exact decide_eq_false hlt)).mono ?_
        rintro e w9 ⟨rfl, hw9⟩
        subst hw9
        have hd : decide ((q : Int) < (n : Int)) = false := decide_eq_false (by omega)
        go_wp2
        go_ret
        exact ⟨rfl, by rw [HB.out]; exact hb⟩

set_option maxHeartbeats 2000000 in
set_option maxRecDepth 100000 in
/-- The nil list. -/
theorem rem_nil (t : ByteArray) (w : World) : Calls Try.prog 4 #[.string t, .slice none 0 0] w fun e w' => e = .returned (.bool true) ∧ Below w.heap.size w w' := by
  obtain ⟨i0, hi, hz0, hz1, hz2⟩ := info_parts info27
  have HI : Hid (∀ a w, Inp w a 0 (fun _ => ByteArray.empty)) := fun a w h => absurd h (Nat.lt_irrefl 0)
  go_enter Try.func4, Try.ntmps4
  go_wp2_with fail
  refine (bytes9 t none 0 0 (fun _ => ByteArray.empty) _ (HI.out _ _)).mono ?_
  rintro e w ⟨⟨r, rfl, hr⟩, rfl⟩
  cases r with
  | false =>
    clear hr
    go_wp2
    go_ret
    exact ⟨rfl, Below.refl _ _⟩
  | true =>
  obtain ⟨z1, z2, z3⟩ := hr rfl
  go_wp2_with fail
  refine (tooBig6 t none 0 0 (fun _ => ByteArray.empty) _ (HI.out _ _) z1 z2 z3).mono ?_
  rintro e w ⟨⟨r, rfl, hr⟩, rfl⟩
  cases r with
  | true =>
    clear hr
    go_wp2
    go_ret
    exact ⟨rfl, Below.refl _ _⟩
  | false =>
  clear hr z1 z2 z3
  go_wp2_with fail
  refine (types7_nil _).mono ?_
  rintro e w1 ⟨rfl, hw1⟩
  subst hw1
  obtain ⟨B, hB⟩ : ∃ B, w1.heap.size = B := ⟨_, rfl⟩
  have HB : Hid (w1.heap.size = B) := hB
  clear hB
  go_wp2_with (at_make; refine wpList_make_own _ rfl _ _ 25 rfl B 27 i0 (.string ByteArray.empty) 1 Try.underlying25 hi hz0 hz1 .i64 .i64 _ 0 rfl rfl (by omega) ?b2 ?b3 ?b4 ?_)
  case b2 => rw [hz2]; omega
  case b3 => unfold maxLen; omega
  case b4 => have := HB.out; omega
  intro w5 own5 grow5
  rw [HB.out] at own5 ⊢
  have hb5 : Below B w1 w5 := (Below.refl _ _).grown grow5 (by have := HB.out; omega) (fun k h => by cases h)
  clear grow5 own5
  go_wp2
  go_loop [6, 7] (fun v i => v = .slice (some ⟨B, 0, none⟩) 0 0 ∧ i = .int .i64 0) (fun _ _ => 0)
  case atStart => exact ⟨rfl, rfl⟩
  case round =>
    obtain ⟨rfl, rfl⟩ := hrel
    go_wp2_with fail
    refine (oneOf8_r t _ 0 0 (fun _ => ByteArray.empty) _ (HI.out _ _) (by omega) (r := false) rfl).mono ?_
    rintro e w8 ⟨rfl, hw8⟩
    subst hw8
    go_wp2_with fail
    refine (oneOf8_r t _ 0 0 (fun _ => ByteArray.empty) _ (HI.out _ _) (by omega) (r := false) rfl).mono ?_
    rintro e w9 ⟨rfl, hw9⟩
    subst hw9
    go_wp2
    go_ret
    exact ⟨rfl, by rw [HB.out]; exact hb5⟩
end Go.Proofs.Qxb6629087a

/-
  THE WALK of 'FnOneOfCutAndInsert': the cut stands inside the list.
-/
import Derived.Test.Qxb6629087aCalls
namespace Go.Proofs.Qxb6629087a
open Go.RowKit
set_option linter.unusedVariables false

theorem oneOf8_r (t : ByteArray) (a : Option Addr) (n c : Nat) (S : Nat → ByteArray) (w : World) (hI : Inp w a n S) (hn : n ≤ 10000000) {r : Bool} (hr : memB t S n = r) :
    Calls Try.prog 8 #[.string t, .slice a n c] w fun e w' => e = .returned (.bool r) ∧ w' = w := by
  subst hr
  exact oneOf8 t a n c S w hI hn

theorem memB_split (t : ByteArray) (S : Nat → ByteArray) (i m : Nat) : memB t S (i + m) = (memB t S i || memB t (fun j => S (i + j)) m) := by
  induction m with
  | zero => simp [memB]
  | succ m ih => rw [← Nat.add_assoc]; simp only [memB, ih, Bool.or_assoc]

theorem Arr.pre {w : World} {b n m : Nat} {f : Nat → ByteArray} (h : Arr w b n f) (hm : m ≤ n) : Arr w b m f := fun j hj => h j (by omega)

theorem Arr.suf {w : World} {b n : Nat} {f : Nat → ByteArray} (h : Arr w b n f) (p : Nat) : Inp w (some ⟨b, p, none⟩) (n - p) (fun j => f (p + j)) := fun hn =>
  ⟨b, p, rfl, World.block_lt_of_cell? w _ (h p (by omega)).1, fun i hi => (h (p + i) (by omega)).1⟩
theorem Arr.grown {w w' : World} {b n : Nat} {f : Nat → ByteArray} {row : Option Nat} (h : Arr w b n f) (hg : w.grownBy w' row) (hb : b < w.heap.size) (hr : some b ≠ row) : Arr w' b n f := h.block (hg.block b hb hr)
theorem strs_oneCell (m : Nat) (f : Nat → ByteArray) : ∀ u ∈ (List.range m).map (fun j => Value.string (f j)), u.oneCell' = true := by
  intro u hu
  simp at hu
  obtain ⟨i, _, rfl⟩ := hu
  rfl
theorem cells_of_inp {w : World} {m : Nat} {S : Nat → ByteArray} {ao : Option Addr} (h : Inp w ao m S) : ∀ ad, ao = some ad → ∀ j u, ((List.range m).map fun j => Value.string (S j))[j]? = some u → w.cell? (ad.add j) = some u := by
  intro ad had j u hj
  rw [List.getElem?_map] at hj
  by_cases hjn : j < m
  · rw [List.getElem?_range hjn] at hj
    simp at hj
    subst hj
    obtain ⟨b, off, e, _, hc⟩ := h (by omega)
    rw [had] at e
    obtain rfl := Option.some.inj e
    rw [WideShapes.add_plain]
    exact hc j hjn
  · rw [List.getElem?_eq_none (by simp; omega)] at hj
    simp at hj
theorem cells_of_arr {w : World} {b n m : Nat} {S : Nat → ByteArray} (h : Arr w b n S) (hm : m ≤ n) : ∀ ad, some (⟨b, 0, none⟩ : Addr) = some ad → ∀ j u, ((List.range m).map fun j => Value.string (S j))[j]? = some u → w.cell? (ad.add j) = some u :=
  cells_of_inp (h.pre hm).inp

/-- The row 'ins' as a slice of strings: t stands at place p. -/
theorem ins_inp {w : World} {base e g p m cap : Nat} {f h : Nat → ByteArray} {t : ByteArray}
    (own : w.ownsRow base e 1 (.slice (some ⟨g, 0, none⟩) (p + 1 + m) cap) (p + 1 + m) ((List.range p).map (fun j => Value.string (f j)) ++ .string t :: (List.range m).map (fun j => Value.string (h j)))) (hg : 0 < p + 1 + m) :
    ∃ S' : Nat → ByteArray, S' p = t ∧ Inp w (some ⟨g, 0, none⟩) (p + 1 + m) S' := by
  refine ⟨fun j => if j < p then f j else if j = p then t else h (j - (p + 1)), by simp, fun hn => ?_⟩
  have hc : ∀ i, i < p + 1 + m → w.cell? ⟨g, i, none⟩ = some (.string (if i < p then f i else if i = p then t else h (i - (p + 1)))) := by
    intro i hi
    rw [own.cellAt i (by omega)]
    by_cases h1 : i < p
    · rw [List.getElem?_append_left (by simpa using h1), List.getElem?_map, List.getElem?_range h1]
      simp [h1]
    · by_cases h2 : i = p
      · subst h2
        rw [List.getElem?_append_right (by simp)]
        simp
      · obtain ⟨q, rfl⟩ : ∃ q, i = p + 1 + q := ⟨i - (p + 1), by omega⟩
        rw [List.getElem?_append_right (by simp; omega), List.length_map, List.length_range, show p + 1 + q - p = q + 1 from by omega, List.getElem?_cons_succ, List.getElem?_map, List.getElem?_range (by omega)]
        simp [h1, h2]
  exact ⟨g, 0, rfl, World.block_lt_of_cell? w _ (hc 0 hn), fun i hi => by rw [Nat.zero_add]; exact hc i hi⟩

set_option maxHeartbeats 2000000 in
set_option maxRecDepth 100000 in
/-- The cut stands inside the list. -/
theorem cut_lt (t : ByteArray) (x : Addr) (n c : Nat) (p : Nat) (S : Nat → ByteArray) (w : World) (hI : Inp w (some x) n S) (hp : p < n) :
    Calls Try.prog 3 #[.string t, .slice (some x) n c, .int .i64 (p : Int)] w fun e w' => e = .returned (.bool true) ∧ Below w.heap.size w w' := by
  obtain ⟨i0, hi, hz0, hz1, hz2⟩ := info_parts info27
  obtain ⟨L, hL⟩ : ∃ L, memB t S p = L := ⟨_, rfl⟩
  obtain ⟨R, hR⟩ : ∃ R, memB t (fun j => S (p + j)) (n - p) = R := ⟨_, rfl⟩
  have hW : memB t S n = (L || R) := by
    have := memB_split t S p (n - p)
    rw [show p + (n - p) = n from by omega, hL, hR] at this
    exact this
  have HL : Hid (memB t S p = L) := hL
  have HR : Hid (memB t (fun j => S (p + j)) (n - p) = R) := hR
  have HW : Hid (memB t S n = (L || R)) := hW
  clear hL hR hW
  go_enter Try.func3, Try.ntmps3
  go_wp2_with fail
  refine (bytes5 t _ n c _ S _ hI).mono ?_
  rintro e w ⟨⟨r, rfl, hr⟩, rfl⟩
  cases r with
  | false =>
    clear hr
    go_wp2
    go_ret
    exact ⟨rfl, Below.refl _ _⟩
  | true =>
  obtain ⟨z1, z2, z3⟩ := hr rfl
  go_wp2_with fail
  refine (tooBig6 t _ n c S _ hI z1 z2 z3).mono ?_
  rintro e w ⟨⟨r, rfl, hr⟩, rfl⟩
  cases r with
  | true =>
    clear hr
    go_wp2
    go_ret
    exact ⟨rfl, Below.refl _ _⟩
  | false =>
  have z4 := hr rfl
  clear hr z3
  go_wp2_with fail
  obtain ⟨B, hB⟩ : ∃ B, w.heap.size = B := ⟨_, rfl⟩
  have HB : Hid (w.heap.size = B) := hB
  refine (types7 x n c S _ hI (by omega)).mono ?_
  rintro e w1 ⟨rfl, k1, t4, A1⟩
  rw [hB] at t4 A1 ⊢
  have HS1 : Hid (w1.heap.size = B + 1) := t4
  have hb1 : Below B w w1 := k1.below (Below.refl _ _) (by rw [HB.out]; exact Nat.le_refl _) (fun b hb => by cases hb)
  clear t4 k1 hB hI
  go_wp2_with fail
  refine (oneOf8_r t _ n n S _ A1.inp (by omega) HW.out).mono ?_
  rintro e w2 ⟨rfl, hw2⟩
  subst hw2
  go_wp2_with fail
  refine (oneOf8_r t _ p n S _ (A1.pre (by omega)).inp (by omega) HL.out).mono ?_
  rintro e w3 ⟨rfl, hw3⟩
  subst hw3
  have hne : ¬ n = p := by omega
  go_wp2_with fail
  refine (oneOf8_r t _ (n - p) (n - p) (fun j => S (p + j)) _ (A1.suf p) (by omega) HR.out).mono ?_
  rintro e w4 ⟨rfl, hw4⟩
  subst hw4
  have HA : Hid (Arr w4 B n S) := A1
  clear A1
  go_wp2_with (at_make; refine wpList_make_own _ rfl _ _ 25 rfl (B + 1) 27 i0 (.string ByteArray.empty) 1 Try.underlying25 hi hz0 hz1 .i64 .i64 _ (n + 1) rfl rfl (by omega) ?b2 ?b3 ?b4 ?_)
  case b2 => rw [hz2]; omega
  case b3 => unfold maxLen; omega
  case b4 => have := HS1.out; omega
  intro w5 own5 grow5
  rw [HS1.out] at own5 ⊢
  have A5 : Arr w5 B n S := HA.out.grown grow5 (by have := HS1.out; omega) (fun h => by cases h)
  have hb5 : Below B w w5 := hb1.grown grow5 (by have := HS1.out; omega) (fun k h => by cases h)
  have hs5 : B + 1 ≤ w5.heap.size := by have := grow5.size; have := HS1.out; omega
  clear hb1 grow5
  go_wp2_with (at_builtin; refine wpList_append_fits_any _ rfl (.tmp 49) (.tmp 52) 25 rfl (B + 1) 27 i0 1 Try.underlying25 hi hz1 (B + 1) 0 (n + 1) [] rfl own5 (some ⟨B, 0, none⟩) p n ((List.range p).map fun j => .string (S j)) rfl ?c1 ?c2 ?c3 ?c4 ?c5 ?_)
  case c1 => simp
  case c2 => intro h; cases h
  case c3 => exact cells_of_arr A5 (by omega)
  case c4 => exact strs_oneCell _ _
  case c5 => omega
  intro w6 own6 grow6
  have A6 : Arr w6 B n S := A5.grown grow6 (by omega) (by simp)
  have hb6 : Below B w w6 := hb5.grown grow6 (by omega) (fun k h => by cases h; omega)
  have hs6 : B + 1 ≤ w6.heap.size := Nat.le_trans hs5 grow6.size
  clear hb5 grow6 own5 A5 hs5
  obtain ⟨X1, hX1⟩ : ∃ X1, X1 = (List.range p).map fun j => Value.string (S j) := ⟨_, rfl⟩
  rw [← hX1] at own6
  have HX1 : Hid (X1 = (List.range p).map fun j => Value.string (S j)) := hX1
  have HA6 : Hid (Arr w6 B n S) := A6
  clear hX1 A6
  go_wp2_with (at_builtin; refine wpList_append_fits _ rfl (.tmp 54) (.tmp 56) 25 rfl (B + 1) 27 i0 1 Try.underlying25 hi hz1 (B + 1) p (n + 1) X1 rfl (own6.alloc _) ⟨w6.heap.size, 0, none⟩ 1 1 [.string t] rfl rfl ?d1 ?d2 ?d3 ?_)
  case d1 =>
    intro j u hj
    match j, hj with
    | 0, hj => simp at hj; subst hj; simp [Addr.add]
  case d2 => intro u hu; simp at hu; subst hu; rfl
  case d3 => omega
  intro w7 own7 grow7
  have A7 : Arr w7 B n S := (HA6.out.below (B := B + 1) ((Below.refl _ _).alloc hs6 _) (by omega)).grown grow7 (by simp; omega) (by simp)
  have hb7 : Below B w w7 := (hb6.alloc (by omega) _).grown grow7 (by simp; omega) (fun k h => by cases h; omega)
  have hs7 : B + 1 ≤ w7.heap.size := by have := grow7.size; simp at this; omega
  clear hb6 grow7 own6 HA6 hs6
  have HA7 : Hid (Arr w7 B n S) := A7
  have hsrc : Inp w7 (some ⟨B, p, none⟩) (n - p) (fun j => S (p + j)) := A7.suf p
  have HC7 : Hid (∀ ad, some (⟨B, p, none⟩ : Addr) = some ad → ∀ j u, ((List.range (n - p)).map fun j => Value.string (S (p + j)))[j]? = some u → w7.cell? (ad.add j) = some u) := cells_of_inp hsrc
  clear hsrc A7
  go_wp2_with (at_builtin; refine wpList_append_fits_any _ rfl (.tmp 58) (.tmp 61) 25 rfl (B + 1) 27 i0 1 Try.underlying25 hi hz1 (B + 1) (p + 1) (n + 1) (X1 ++ [.string t]) rfl own7 (some ⟨B, p, none⟩) (n - p) (n - p) ((List.range (n - p)).map fun j => .string (S (p + j))) rfl ?c1 ?c2 ?c3 ?c4 ?c5 ?_)
  case c1 => simp
  case c2 => intro h; cases h
  case c3 => exact HC7.out
  case c4 => exact strs_oneCell _ _
  case c5 => omega
  intro w8 own8 grow8
  have hb8 : Below B w w8 := hb7.grown grow8 (by omega) (fun k h => by cases h; omega)
  clear hb7 own7 HC7 hs7
  rw [HX1.out] at own8
  obtain ⟨S', hS', hI'⟩ := ins_inp own8 (by omega)
  have HM : Hid (memB t S' (p + 1 + (n - p)) = true) := memB_hit (j := p) (by omega) (by rw [hS']; simp)
  clear own8 grow8 hS' HX1
  cases L <;> cases R
  all_goals
    go_wp2_with (go_at_call 8; refine (oneOf8_r t _ (p + 1 + (n - p)) (n + 1) S' _ hI' (by omega) HM.out).mono ?_; rintro e w9 ⟨rfl, hw9⟩; subst hw9)
    go_ret
    exact ⟨rfl, by rw [HB.out]; exact hb8⟩
end Go.Proofs.Qxb6629087a

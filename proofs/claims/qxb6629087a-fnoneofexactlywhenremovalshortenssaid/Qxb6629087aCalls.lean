/-
  THE CALLEES' CONTRACTS: the byte counts, zzTooBigB1, zzTypesB1, OneOf.
-/
import Derived.Test.Qxb6629087aRows
import Derived.Test.Qxb6629087aBase
import Derived.WalkSpells
import Derived.WalkLawsBesides
import Derived.Lib.SliceRun
namespace Go.Proofs.Qxb6629087a
open Go.RowKit
set_option linter.unusedVariables false

/-- Is t among the first n of S? -/
def memB (t : ByteArray) (S : Nat → ByteArray) : Nat → Bool
  | 0 => false
  | m + 1 => memB t S m || (t.toList == (S m).toList)

theorem memB_hit {t : ByteArray} {S : Nat → ByteArray} {j n : Nat} (hj : j < n) (h : (t.toList == (S j).toList) = true) : memB t S n = true := by
  induction n with
  | zero => omega
  | succ n ih =>
    by_cases e : j = n
    · subst e; simp only [memB, h, Bool.or_true]
    · simp only [memB, ih (by omega), Bool.true_or]

set_option maxHeartbeats 1000000 in
theorem oneOf8 (t : ByteArray) (a : Option Addr) (n c : Nat) (S : Nat → ByteArray) (w : World) (hI : Inp w a n S) (hn : n ≤ 10000000) :
    Calls Try.prog 8 #[.string t, .slice a n c] w fun e w' => e = .returned (.bool (memB t S n)) ∧ w' = w := by
  go_enter Try.func8, Try.ntmps8
  go_wp2
  go_loop [9] (fun i => ∃ j : Nat, j ≤ n ∧ i = .int .i64 j ∧ memB t S j = false) (fun i => n - (intOf i).toNat)
  case atStart => exact ⟨0, Nat.zero_le _, rfl, rfl⟩
  case round =>
    obtain ⟨j, hj, rfl, hm⟩ := hrel
    by_cases hjn : j < n
    · obtain ⟨b, off, rfl, hc⟩ := hI.at hjn
      have HM : Hid (memB t S j = false) := hm
      clear hm hI
      have HY : Hid ((t.toList == (S j).toList) = true → memB t S n = true) := fun h => memB_hit hjn h
      have HN : Hid ((t.toList == (S j).toList) = false → memB t S (j + 1) = false) := fun h => by simp only [memB, HM.out, h]; rfl
      generalize S j = s at hc HY HN
      cases hq : (t.toList == s.toList) with
      | true =>
        have HE : Hid (memB t S n = true) := HY.out hq
        go_wp2
        go_ret
        exact ⟨by rw [HE.out]; rfl, rfl⟩
      | false =>
        have HE : Hid (memB t S (j + 1) = false) := HN.out hq
        go_wp2
        go_round
        case rel => exact ⟨j + 1, by omega, by go_num, HE.out⟩
        case measure => simp [intOf]; omega
    · have e : n = j := by omega
      subst e
      have HE : Hid (memB t S n = false) := hm
      clear hm
      go_wp2
      go_ret
      exact ⟨by rw [HE.out]; rfl, rfl⟩

theorem info27 : (Try.prog.info? 27).map (fun i => (i.zero, i.size, i.bytes)) = some (some (.string ByteArray.empty), 1, 16) := by kernel_rfl

/-- A row of empty strings into which the first j of S have been copied. -/
def cpy (S : Nat → ByteArray) (j : Nat) : Nat → ByteArray := fun v => if v < j then S v else ByteArray.empty
theorem cpy_step (S : Nat → ByteArray) (i j : Nat) : cpy S (i + 1) j = upd (cpy S i) i (S i) j := by
  unfold cpy upd
  by_cases h : j = i
  · subst h; simp
  · by_cases h2 : j < i
    · simp [h, h2, Nat.lt_succ_of_lt h2]
    · have : ¬ j < i + 1 := by omega
      simp [h, h2, this]

set_option maxHeartbeats 1000000 in
theorem types7_nil (w : World) : Calls Try.prog 7 #[.slice none 0 0] w fun e w' => e = .returned (.slice none 0 0) ∧ w' = w := by
  have q : ∀ (w : World) (a : Option Addr) (n c n' c' : Nat), (binOp .eql 22 (.slice a n c) (.slice none n' c')).run Try.prog w = .ok (.bool a.isNone) w := fun w a n c n' c' => Lib.run_eql_slice_nil w _ _ a n c n' c' Try.underlying22
  go_enter Try.func7, Try.ntmps7
  go_wp2
  go_ret
  exact ⟨rfl, rfl⟩

set_option maxHeartbeats 1000000 in
theorem types7 (x : Addr) (n c : Nat) (S : Nat → ByteArray) (w : World) (hI : Inp w (some x) n S) (hn : n ≤ 10000000) :
    Calls Try.prog 7 #[.slice (some x) n c] w fun e w' => e = .returned (.slice (some ⟨w.heap.size, 0, none⟩) n n) ∧ Keep [] w w' ∧ w'.heap.size = w.heap.size + 1 ∧ Arr w' w.heap.size n S := by
  obtain ⟨i0, hi, hz0, hz1, hz2⟩ := info_parts info27
  have q : ∀ (w : World) (a : Option Addr) (n c n' c' : Nat), (binOp .eql 22 (.slice a n c) (.slice none n' c')).run Try.prog w = .ok (.bool a.isNone) w := fun w a n c n' c' => Lib.run_eql_slice_nil w _ _ a n c n' c' Try.underlying22
  go_enter Try.func7, Try.ntmps7
  go_wp2_with (at_make; refine wpList_make_arr _ rfl _ _ 25 rfl 27 i0 ByteArray.empty Try.underlying25 hi hz0 hz1 .i64 .i64 _ _ n rfl rfl rfl rfl (by omega) (by omega) ?_)
  intro w0 hK0 hs0 hA0
  obtain ⟨B, hB⟩ : ∃ B, w.heap.size = B := ⟨_, rfl⟩
  rw [hB] at hs0 hA0 ⊢
  have HB : Hid (w.heap.size = B) := hB
  have HS : Hid (w0.heap.size = B + 1) := hs0
  clear hB hs0 q
  go_wp2
  go_loopw [4] (fun i wr => ∃ j : Nat, j ≤ n ∧ i = .int .i64 j ∧ Arr wr B n (cpy S j) ∧ Keep [B] w0 wr ∧ wr.heap.size = B + 1) (fun i _ => n - (intOf i).toNat)
  case atStart => exact ⟨0, Nat.zero_le _, rfl, hA0.congr (fun j _ => by simp [cpy]), Keep.refl _ _, HS.out⟩
  case round =>
    obtain ⟨j, hj, rfl, hA, hK, hsz⟩ := hrel
    have HSr : Hid (wr.heap.size = B + 1) := hsz
    have hbel : Keep [] w wr := ⟨hK.os.trans hK0.os, hK.tape.trans hK0.tape, hK.output.trans hK0.output, Nat.le_trans hK0.size hK.size, fun b hb hn => by
      have h1 := HB.out; have h2 := HS.out
      rw [hK.block b (by omega) (by simp; omega)]; exact hK0.block b hb hn⟩
    clear hsz hA0
    by_cases hjn : j < n
    · have hIr : Inp wr (some x) n S := hI.below (Keep.below (Below.refl _ _) hbel (Nat.le_refl _) (fun b hb => by cases hb))
      obtain ⟨b, off, hx, hc⟩ := hIr.at hjn
      obtain rfl : x = ⟨b, off, none⟩ := by simpa using hx
      have hst := (hA.set (i := j) (S j)).congr (g := cpy S (j + 1)) (fun t _ => cpy_step _ _ _)
      have hcy := hA.cell hjn
      have hcf := hA.free hjn
      have hKt : Keep [B] w0 (wr.setCell ⟨B, j, none⟩ (.string (S j))) := hK.setCell (by simp) _
      generalize S j = y at hst hc hKt
      generalize cpy S j j = y' at hcy
      clear hA hIr hI hx
      go_wp2
      go_roundw
      case rel => exact ⟨j + 1, by omega, by go_num, hst, hKt, by simpa using HSr.out⟩
      case measure => simp [intOf]; omega
    · have e : n = j := by omega
      subst e
      have hA7 : Arr wr B n S := hA.congr (fun t ht => by simp [cpy, ht])
      clear hA hjn hj
      go_wp2
      go_ret
      rw [HB.out]
      exact ⟨rfl, hbel, HSr.out, hA7⟩

/-- What the byte counts answer. -/
def Counted (t : ByteArray) (n : Nat) (S : Nat → ByteArray) (e : Ending) : Prop := ∃ r : Bool, e = .returned (.bool r) ∧ (r = true → t.size ≤ 1048576 ∧ n ≤ 1048576 ∧ ∀ i, i < n → (S i).size ≤ 1048576)
/-- What zzTooBigB1 answers. -/
def Sized (n : Nat) (e : Ending) : Prop := ∃ r : Bool, e = .returned (.bool r) ∧ (r = false → n ≤ 65536)

set_option maxHeartbeats 2000000 in
theorem bytes5 (t : ByteArray) (a : Option Addr) (n c : Nat) (x : Int) (S : Nat → ByteArray) (w : World) (hI : Inp w a n S) :
    Calls Try.prog 5 #[.string t, .slice a n c, .int .i64 x] w fun e w' => Counted t n S e ∧ w' = w := by
  by_cases h1 : 1048576 < t.size
  · go_enter Try.func5, Try.ntmps5
    go_wp2
    go_ret
    exact ⟨⟨false, rfl, fun h => by cases h⟩, rfl⟩
  by_cases h2 : 1048576 < n
  · go_enter Try.func5, Try.ntmps5
    go_wp2
    go_ret
    exact ⟨⟨false, rfl, fun h => by cases h⟩, rfl⟩
  by_cases h3 : 1048576 < t.size + n
  · go_enter Try.func5, Try.ntmps5
    go_wp2
    go_ret
    exact ⟨⟨false, rfl, fun h => by cases h⟩, rfl⟩
  go_enter Try.func5, Try.ntmps5
  go_wp2
  go_loop [7, 8] (fun tv i => ∃ (j : Nat) (T : Nat), j ≤ n ∧ i = .int .i64 j ∧ tv = .int .i64 T ∧ T ≤ 1048576 ∧ ∀ t, t < j → (S t).size ≤ 1048576) (fun _ i => n - (intOf i).toNat)
  case atStart => exact ⟨0, t.size + n, Nat.zero_le _, rfl, by go_num, by omega, fun t ht => absurd ht (Nat.not_lt_zero t)⟩
  case round =>
    obtain ⟨j, T, hj, rfl, rfl, hT, hv⟩ := hrel
    by_cases hjn : j < n
    · obtain ⟨b, off, rfl, hc⟩ := hI.at hjn
      have HV : Hid (∀ t, t < j → (S t).size ≤ 1048576) := hv
      have HW : Hid ((S j).size ≤ 1048576 → ∀ t, t < j + 1 → (S t).size ≤ 1048576) := fun h t ht => by
        by_cases e : t = j
        · subst e; exact h
        · exact HV.out t (by omega)
      clear hv hI
      generalize S j = s at hc HW
      by_cases g1 : 1048576 < s.size
      · go_wp2
        go_ret
        exact ⟨⟨false, rfl, fun h => by cases h⟩, rfl⟩
      by_cases g2 : 1048576 < T + s.size
      · go_wp2
        go_ret
        exact ⟨⟨false, rfl, fun h => by cases h⟩, rfl⟩
      · have HX : Hid (∀ t, t < j + 1 → (S t).size ≤ 1048576) := HW.out (by omega)
        go_wp2
        go_round
        case rel => exact ⟨j + 1, T + s.size, by omega, by go_num, by go_num, by omega, HX.out⟩
        case measure => simp [intOf]; omega
    · have e : n = j := by omega
      subst e
      have HX : Hid (∀ t, t < n → (S t).size ≤ 1048576) := hv
      clear hv
      go_wp2
      go_ret
      exact ⟨⟨true, rfl, fun _ => ⟨by omega, by omega, HX.out⟩⟩, rfl⟩

set_option maxHeartbeats 2000000 in
theorem bytes9 (t : ByteArray) (a : Option Addr) (n c : Nat) (S : Nat → ByteArray) (w : World) (hI : Inp w a n S) :
    Calls Try.prog 9 #[.string t, .slice a n c] w fun e w' => Counted t n S e ∧ w' = w := by
  by_cases h1 : 1048576 < t.size
  · go_enter Try.func9, Try.ntmps9
    go_wp2
    go_ret
    exact ⟨⟨false, rfl, fun h => by cases h⟩, rfl⟩
  by_cases h2 : 1048576 < n
  · go_enter Try.func9, Try.ntmps9
    go_wp2
    go_ret
    exact ⟨⟨false, rfl, fun h => by cases h⟩, rfl⟩
  by_cases h3 : 1048576 < t.size + n
  · go_enter Try.func9, Try.ntmps9
    go_wp2
    go_ret
    exact ⟨⟨false, rfl, fun h => by cases h⟩, rfl⟩
  go_enter Try.func9, Try.ntmps9
  go_wp2
  go_loop [5, 6] (fun tv i => ∃ (j : Nat) (T : Nat), j ≤ n ∧ i = .int .i64 j ∧ tv = .int .i64 T ∧ T ≤ 1048576 ∧ ∀ t, t < j → (S t).size ≤ 1048576) (fun _ i => n - (intOf i).toNat)
  case atStart => exact ⟨0, t.size + n, Nat.zero_le _, rfl, by go_num, by omega, fun t ht => absurd ht (Nat.not_lt_zero t)⟩
  case round =>
    obtain ⟨j, T, hj, rfl, rfl, hT, hv⟩ := hrel
    by_cases hjn : j < n
    · obtain ⟨b, off, rfl, hc⟩ := hI.at hjn
      have HV : Hid (∀ t, t < j → (S t).size ≤ 1048576) := hv
      have HW : Hid ((S j).size ≤ 1048576 → ∀ t, t < j + 1 → (S t).size ≤ 1048576) := fun h t ht => by
        by_cases e : t = j
        · subst e; exact h
        · exact HV.out t (by omega)
      clear hv hI
      generalize S j = s at hc HW
      by_cases g1 : 1048576 < s.size
      · go_wp2
        go_ret
        exact ⟨⟨false, rfl, fun h => by cases h⟩, rfl⟩
      by_cases g2 : 1048576 < T + s.size
      · go_wp2
        go_ret
        exact ⟨⟨false, rfl, fun h => by cases h⟩, rfl⟩
      · have HX : Hid (∀ t, t < j + 1 → (S t).size ≤ 1048576) := HW.out (by omega)
        go_wp2
        go_round
        case rel => exact ⟨j + 1, T + s.size, by omega, by go_num, by go_num, by omega, HX.out⟩
        case measure => simp [intOf]; omega
    · have e : n = j := by omega
      subst e
      have HX : Hid (∀ t, t < n → (S t).size ≤ 1048576) := hv
      clear hv
      go_wp2
      go_ret
      exact ⟨⟨true, rfl, fun _ => ⟨by omega, by omega, HX.out⟩⟩, rfl⟩

set_option maxHeartbeats 2000000 in
theorem tooBig6 (t : ByteArray) (a : Option Addr) (n c : Nat) (S : Nat → ByteArray) (w : World) (hI : Inp w a n S) (ht : t.size ≤ 1048576) (hn : n ≤ 1048576) (hS : ∀ i, i < n → (S i).size ≤ 1048576) :
    Calls Try.prog 6 #[.string t, .slice a n c] w fun e w' => Sized n e ∧ w' = w := by
  have HS : Hid (∀ i, i < n → (S i).size ≤ 1048576) := hS
  clear hS
  by_cases h2 : 65536 < n
  · go_enter Try.func6, Try.ntmps6
    go_wp2
    go_ret
    exact ⟨⟨true, rfl, fun h => by cases h⟩, rfl⟩
  by_cases h3 : 1048576 < t.size + 8 * n
  · go_enter Try.func6, Try.ntmps6
    go_wp2
    go_ret
    exact ⟨⟨true, rfl, fun h => by cases h⟩, rfl⟩
  go_enter Try.func6, Try.ntmps6
  go_wp2
  go_loop [5, 6] (fun tv i => ∃ (j : Nat) (T : Nat), j ≤ n ∧ i = .int .i64 j ∧ tv = .int .i64 T ∧ T ≤ 1048576) (fun _ i => n - (intOf i).toNat)
  case atStart => exact ⟨0, t.size + 8 * n, Nat.zero_le _, rfl, by go_num, by omega⟩
  case round =>
    obtain ⟨j, T, hj, rfl, rfl, hT⟩ := hrel
    by_cases hjn : j < n
    · obtain ⟨b, off, rfl, hc⟩ := hI.at hjn
      have hsz := HS.out j hjn
      clear hI
      generalize S j = s at hc hsz
      by_cases g2 : 1048576 < T + s.size
      · go_wp2
        go_ret
        exact ⟨⟨true, rfl, fun h => by cases h⟩, rfl⟩
      · go_wp2
        go_round
        case rel => exact ⟨j + 1, T + s.size, by omega, by go_num, by go_num, by omega⟩
        case measure => simp [intOf]; omega
    · have e : n = j := by omega
      subst e
      go_wp2
      go_ret
      exact ⟨⟨false, rfl, fun _ => by omega⟩, rfl⟩
end Go.Proofs.Qxb6629087a

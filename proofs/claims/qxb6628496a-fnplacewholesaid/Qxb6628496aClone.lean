/-
  zzBytes_FnPlaceWhole, zzCloneU16, zzCloneInt: their contracts.
-/
import Derived.Test.Qxb6628496aMake
import Derived.Lib.SliceRun
namespace Go.Proofs.Qxb6628496a
open Go.RowKit
set_option linter.unusedVariables false

set_option maxHeartbeats 400000 in
theorem bytes5_yes (a b : Option Addr) (n c m d : Nat) (x : Int) (w : World) (h : n + m ≤ 1048576) :
    Calls Try.prog 5 #[.slice a n c, .slice b m d, .int .i64 x] w fun e w' => e = .returned (.bool true) ∧ w' = w := by
  go_enter Try.func5, Try.ntmps5
  go_wp2
  go_ret
  exact ⟨rfl, rfl⟩

set_option maxHeartbeats 400000 in
theorem bytes5_no (a b : Option Addr) (n c m d : Nat) (x : Int) (w : World) (h : 1048576 < n + m) :
    Calls Try.prog 5 #[.slice a n c, .slice b m d, .int .i64 x] w fun e w' => e = .returned (.bool false) ∧ w' = w := by
  by_cases h1 : 1048576 < n
  · go_enter Try.func5, Try.ntmps5
    go_wp2
    go_ret
    exact ⟨rfl, rfl⟩
  · by_cases h2 : 1048576 < m
    · go_enter Try.func5, Try.ntmps5
      go_wp2
      go_ret
      exact ⟨rfl, rfl⟩
    · go_enter Try.func5, Try.ntmps5
      go_wp2
      go_ret
      exact ⟨rfl, rfl⟩

set_option maxHeartbeats 1000000 in
theorem clone6 (a : Option Addr) (n c : Nat) (F : Nat → Int) (w : World) (hI : Inp .u16 w a n F) (hn : n ≤ 1000000) (hnil : a = none → n = 0) :
    Calls Try.prog 6 #[.slice a n c] w fun e w' => ∃ r, e = .returned (.slice r n n) ∧ Keep [] w w' ∧ (0 < n → r = some ⟨w.heap.size, 0, none⟩ ∧ w'.heap.size = w.heap.size + 1 ∧ Arr .u16 w' w.heap.size n F) := by
  obtain ⟨i0, hi, hz0, hz1, hz2⟩ := info_parts info33
  have q : ∀ (w : World) (a : Option Addr) (n c n' c' : Nat), (binOp .eql 22 (.slice a n c) (.slice none n' c')).run Try.prog w = .ok (.bool a.isNone) w := fun w a n c n' c' => Lib.run_eql_slice_nil w _ _ a n c n' c' Try.underlying22
  cases a with
  | none =>
    obtain rfl := hnil rfl
    go_enter Try.func6, Try.ntmps6
    go_wp2
    go_ret
    exact ⟨⟨none, rfl⟩, Keep.refl _ _⟩
  | some x =>
    clear hnil
    go_enter Try.func6, Try.ntmps6
    go_wp2_with (at_make; refine wpList_make_arr _ rfl _ _ 22 rfl 33 i0 .u16 Try.underlying22 hi hz0 hz1 .i64 .i64 _ _ n rfl rfl rfl rfl (by omega) (by omega) ?_)
    intro w0 hK0 hs0 hA0
    obtain ⟨B, hB⟩ : ∃ B, w.heap.size = B := ⟨_, rfl⟩
    rw [hB] at hs0 hA0 ⊢
    have HB : Hid (w.heap.size = B) := hB
    have HS : Hid (w0.heap.size = B + 1) := hs0
    clear hB hs0 q
    go_wp2
    go_loopw [4] (fun i wr => ∃ j : Nat, j ≤ n ∧ i = .int .i64 j ∧ Arr .u16 wr B n (cpy F j) ∧ Keep [B] w0 wr ∧ wr.heap.size = B + 1) (fun i _ => n - (intOf i).toNat)
    case atStart => exact ⟨0, Nat.zero_le _, rfl, hA0.congr (fun j _ => by simp [cpy]), Keep.refl _ _, HS.out⟩
    case round =>
      obtain ⟨j, hj, rfl, hA, hK, hsz⟩ := hrel
      have HSr : Hid (wr.heap.size = B + 1) := hsz
      have hbel : Keep [] w wr := ⟨hK.os.trans hK0.os, hK.tape.trans hK0.tape, hK.output.trans hK0.output, Nat.le_trans hK0.size hK.size, fun b hb hn => by
        have h1 := HB.out; have h2 := HS.out
        rw [hK.block b (by omega) (by simp; omega)]; exact hK0.block b hb hn⟩
      clear hsz hA0
      by_cases hjn : j < n
      · have hIr : Inp .u16 wr (some x) n F := hI.below (Keep.below (Below.refl _ _) hbel (Nat.le_refl _) (fun b hb => by cases hb))
        obtain ⟨b, off, hx, hc⟩ := hIr.at hjn
        obtain rfl : x = ⟨b, off, none⟩ := by simpa using hx
        have hst := (hA.set hjn (F j)).congr (g := cpy F (j + 1)) (fun t _ => cpy_step _ _ _)
        have hcy := hA.cell hjn
        have hcf := hA.free hjn
        have hKt : Keep [B] w0 (wr.setCell ⟨B, j, none⟩ (.int .u16 (F j))) := hK.setCell (by simp) _
        generalize F j = y at hst hc hKt
        generalize cpy F j j = y' at hcy
        clear hA hIr hI hx
        go_wp2
        go_roundw
        case rel => exact ⟨j + 1, by omega, by go_num, hst, hKt, by simpa using HSr.out⟩
        case measure => simp [intOf]; omega
      · have e : n = j := by omega
        subst e
        have hA7 : Arr .u16 wr B n F := hA.congr (fun t ht => by simp [cpy, ht])
        clear hA hjn hj
        go_wp2
        go_ret
        exact ⟨_, rfl, hbel, fun _ => by rw [HB.out]; exact ⟨rfl, HSr.out, hA7⟩⟩

set_option maxHeartbeats 1000000 in
theorem clone7 (a : Option Addr) (n c : Nat) (F : Nat → Int) (w : World) (hI : Inp .i64 w a n F) (hn : n ≤ 1000000) (hnil : a = none → n = 0) :
    Calls Try.prog 7 #[.slice a n c] w fun e w' => ∃ r, e = .returned (.slice r n n) ∧ Keep [] w w' ∧ (0 < n → r = some ⟨w.heap.size, 0, none⟩ ∧ w'.heap.size = w.heap.size + 1 ∧ Arr .i64 w' w.heap.size n F) := by
  obtain ⟨i0, hi, hz0, hz1, hz2⟩ := info_parts info3
  have q : ∀ (w : World) (a : Option Addr) (n c n' c' : Nat), (binOp .eql 23 (.slice a n c) (.slice none n' c')).run Try.prog w = .ok (.bool a.isNone) w := fun w a n c n' c' => Lib.run_eql_slice_nil w _ _ a n c n' c' Try.underlying23
  cases a with
  | none =>
    obtain rfl := hnil rfl
    go_enter Try.func7, Try.ntmps7
    go_wp2
    go_ret
    exact ⟨⟨none, rfl⟩, Keep.refl _ _⟩
  | some x =>
    clear hnil
    go_enter Try.func7, Try.ntmps7
    go_wp2_with (at_make; refine wpList_make_arr _ rfl _ _ 23 rfl 3 i0 .i64 Try.underlying23 hi hz0 hz1 .i64 .i64 _ _ n rfl rfl rfl rfl (by omega) (by omega) ?_)
    intro w0 hK0 hs0 hA0
    obtain ⟨B, hB⟩ : ∃ B, w.heap.size = B := ⟨_, rfl⟩
    rw [hB] at hs0 hA0 ⊢
    have HB : Hid (w.heap.size = B) := hB
    have HS : Hid (w0.heap.size = B + 1) := hs0
    clear hB hs0 q
    go_wp2
    go_loopw [4] (fun i wr => ∃ j : Nat, j ≤ n ∧ i = .int .i64 j ∧ Arr .i64 wr B n (cpy F j) ∧ Keep [B] w0 wr ∧ wr.heap.size = B + 1) (fun i _ => n - (intOf i).toNat)
    case atStart => exact ⟨0, Nat.zero_le _, rfl, hA0.congr (fun j _ => by simp [cpy]), Keep.refl _ _, HS.out⟩
    case round =>
      obtain ⟨j, hj, rfl, hA, hK, hsz⟩ := hrel
      have HSr : Hid (wr.heap.size = B + 1) := hsz
      have hbel : Keep [] w wr := ⟨hK.os.trans hK0.os, hK.tape.trans hK0.tape, hK.output.trans hK0.output, Nat.le_trans hK0.size hK.size, fun b hb hn => by
        have h1 := HB.out; have h2 := HS.out
        rw [hK.block b (by omega) (by simp; omega)]; exact hK0.block b hb hn⟩
      clear hsz hA0
      by_cases hjn : j < n
      · have hIr : Inp .i64 wr (some x) n F := hI.below (Keep.below (Below.refl _ _) hbel (Nat.le_refl _) (fun b hb => by cases hb))
        obtain ⟨b, off, hx, hc⟩ := hIr.at hjn
        obtain rfl : x = ⟨b, off, none⟩ := by simpa using hx
        have hst := (hA.set hjn (F j)).congr (g := cpy F (j + 1)) (fun t _ => cpy_step _ _ _)
        have hcy := hA.cell hjn
        have hcf := hA.free hjn
        have hKt : Keep [B] w0 (wr.setCell ⟨B, j, none⟩ (.int .i64 (F j))) := hK.setCell (by simp) _
        generalize F j = y at hst hc hKt
        generalize cpy F j j = y' at hcy
        clear hA hIr hI hx
        go_wp2
        go_roundw
        case rel => exact ⟨j + 1, by omega, by go_num, hst, hKt, by simpa using HSr.out⟩
        case measure => simp [intOf]; omega
      · have e : n = j := by omega
        subst e
        have hA7 : Arr .i64 wr B n F := hA.congr (fun t ht => by simp [cpy, ht])
        clear hA hjn hj
        go_wp2
        go_ret
        exact ⟨_, rfl, hbel, fun _ => by rw [HB.out]; exact ⟨rfl, HSr.out, hA7⟩⟩

end Go.Proofs.Qxb6628496a

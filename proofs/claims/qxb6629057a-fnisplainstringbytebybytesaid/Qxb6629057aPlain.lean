/-
  isPlainString, ZZIsPlainString and the two byte counts: their contracts.
-/
import Derived.Test.Qxb6629057aRows
import Derived.Test.Qxb6629057aBase
import Derived.WalkSpells
import Derived.WalkLawsBesides
namespace Go.Proofs.Qxb6629057a
open Go.RowKit
set_option linter.unusedVariables false

/-- A byte that may stand between the quotes. -/
def okB (x : Int) : Bool := decide (32 ≤ x) && (decide (x ≤ 126) && (!(x == 34) && !(x == 92)))
/-- The bytes at the places 1 .. m may stand between the quotes. -/
def allOk (F : Nat → Int) : Nat → Bool
  | 0 => true
  | m + 1 => allOk F m && okB (F (m + 1))
/-- What isPlainString answers for the n bytes of F. -/
def plainB (n : Nat) (F : Nat → Int) : Bool := decide (2 ≤ n) && ((F 0 == 34) && ((F (n - 1) == 34) && allOk F (n - 2)))

theorem allOk_false {F : Nat → Int} {j m : Nat} (h : okB (F (j + 1)) = false) (hj : j < m) : allOk F m = false := by
  induction m with
  | zero => omega
  | succ m ih =>
    by_cases e : j = m
    · subst e; simp [allOk, h]
    · simp [allOk, ih (by omega)]

set_option maxHeartbeats 400000 in
theorem bytes5_yes (a : Option Addr) (n c : Nat) (x : Int) (w : World) (h : n ≤ 1048576) :
    Calls Try.prog 5 #[.slice a n c, .int .i64 x] w fun e w' => e = .returned (.bool true) ∧ w' = w := by
  go_enter Try.func5, Try.ntmps5
  go_wp2
  go_ret
  exact ⟨rfl, rfl⟩
set_option maxHeartbeats 400000 in
theorem bytes5_no (a : Option Addr) (n c : Nat) (x : Int) (w : World) (h : 1048576 < n) :
    Calls Try.prog 5 #[.slice a n c, .int .i64 x] w fun e w' => e = .returned (.bool false) ∧ w' = w := by
  go_enter Try.func5, Try.ntmps5
  go_wp2
  go_ret
  exact ⟨rfl, rfl⟩
set_option maxHeartbeats 400000 in
theorem bytes7_yes (a : Option Addr) (n c : Nat) (w : World) (h : n ≤ 1048576) :
    Calls Try.prog 7 #[.slice a n c] w fun e w' => e = .returned (.bool true) ∧ w' = w := by
  go_enter Try.func7, Try.ntmps7
  go_wp2
  go_ret
  exact ⟨rfl, rfl⟩
set_option maxHeartbeats 400000 in
theorem bytes7_no (a : Option Addr) (n c : Nat) (w : World) (h : 1048576 < n) :
    Calls Try.prog 7 #[.slice a n c] w fun e w' => e = .returned (.bool false) ∧ w' = w := by
  go_enter Try.func7, Try.ntmps7
  go_wp2
  go_ret
  exact ⟨rfl, rfl⟩

set_option maxHeartbeats 1000000 in
theorem plain8 (a : Option Addr) (n c : Nat) (F : Nat → Int) (w : World) (hI : Inp .u8 w a n F) (hn : n ≤ 10000000) (hc : n ≤ c) :
    Calls Try.prog 8 #[.slice a n c] w fun e w' => e = .returned (.bool (plainB n F)) ∧ w' = w := by
  by_cases h2 : n < 2
  · have e : plainB n F = false := by simp [plainB]; omega
    rw [e]
    clear e
    go_enter Try.func8, Try.ntmps8
    go_wp2
    go_ret
    exact ⟨rfl, rfl⟩
  obtain ⟨b, off, rfl, hb, hcell⟩ := hI (by omega)
  have hc0 : w.cell? ⟨b, off, none⟩ = some (.int .u8 (F 0)) := hcell 0 (by omega)
  have hc1 : w.cell? ⟨b, off + (n - 1), none⟩ = some (.int .u8 (F (n - 1))) := hcell (n - 1) (by omega)
  by_cases g0 : F 0 = 34
  · by_cases g1 : F (n - 1) = 34
    · rw [g0] at hc0
      rw [g1] at hc1
      have HP : Hid (plainB n F = allOk F (n - 2)) := by
        have : 2 ≤ n := by omega
        simp [plainB, g0, g1, this, Hid]
      have HC : Hid (∀ i, i < n → w.cell? ⟨b, off + i, none⟩ = some (.int .u8 (F i))) := hcell
      clear g0 g1 hcell hI
      go_enter Try.func8, Try.ntmps8
      go_wp2
      go_loop [29] (fun i => ∃ j : Nat, j ≤ n - 2 ∧ i = .int .i64 j ∧ allOk F j = true) (fun i => n - 2 - (intOf i).toNat)
      case atStart => exact ⟨0, Nat.zero_le _, rfl, rfl⟩
      case round =>
        obtain ⟨j, hj, rfl, hok⟩ := hrel
        by_cases hjn : j < n - 2
        · have hcj : w.cell? ⟨b, off + 1 + j, none⟩ = some (.int .u8 (F (j + 1))) := by
            rw [show off + 1 + j = off + (j + 1) from by omega]; exact HC.out (j + 1) (by omega)
          have HO : Hid (allOk F j = true) := hok
          have hbad : Hid (okB (F (j + 1)) = false → plainB n F = false) := fun h => by rw [HP.out]; exact allOk_false h hjn
          have hgood : Hid (okB (F (j + 1)) = true → allOk F (j + 1) = true) := fun h => by simp [allOk, HO.out, h]
          clear hok hc0 hc1
          generalize F (j + 1) = x at hcj hbad hgood
          by_cases x1 : x < 32
          · have e : plainB n F = false := hbad.out (by simp [okB]; omega)
            have HE : Hid (plainB n F = false) := e
            clear e
            go_wp2
            go_ret
            exact ⟨by rw [HE.out]; rfl, rfl⟩
          by_cases x2 : 126 < x
          · have e : plainB n F = false := hbad.out (by simp [okB]; omega)
            have HE : Hid (plainB n F = false) := e
            clear e
            go_wp2
            go_ret
            exact ⟨by rw [HE.out]; rfl, rfl⟩
          by_cases x3 : x = 34
          · have e : plainB n F = false := hbad.out (by simp [okB, x3])
            have HE : Hid (plainB n F = false) := e
            clear e
            subst x3
            go_wp2
            go_ret
            exact ⟨by rw [HE.out]; rfl, rfl⟩
          by_cases x4 : x = 92
          · have e : plainB n F = false := hbad.out (by simp [okB, x4])
            have HE : Hid (plainB n F = false) := e
            clear e
            subst x4
            go_wp2
            go_ret
            exact ⟨by rw [HE.out]; rfl, rfl⟩
          · have e : allOk F (j + 1) = true := hgood.out (by simp [okB]; omega)
            have HE : Hid (allOk F (j + 1) = true) := e
            have y3 : (x == 34) = false := by simpa using x3
            have y4 : (x == 92) = false := by simpa using x4
            clear e x3 x4
            go_wp2
            go_round
            case rel => exact ⟨j + 1, by omega, by go_num, HE.out⟩
            case measure => simp [intOf]; omega
        · have e : j = n - 2 := by omega
          have HE : Hid (plainB n F = true) := by rw [Hid, HP.out, ← e]; exact hok
          clear hok
          go_wp2
          go_ret
          exact ⟨by rw [HE.out]; rfl, rfl⟩
    · have e : plainB n F = false := by simp [plainB, g1]
      rw [e]
      have y1 : (F (n - 1) != 34) = true := by simpa using g1
      generalize F (n - 1) = x at hc1 y1
      rw [g0] at hc0
      clear e g1 hI hcell g0
      go_enter Try.func8, Try.ntmps8
      go_wp2
      go_ret
      exact ⟨rfl, rfl⟩
  · have e : plainB n F = false := by simp [plainB, g0]
    rw [e]
    have y1 : (F 0 != 34) = true := by simpa using g0
    generalize F 0 = x at hc0 y1
    clear e g0 hI hcell hc1
    go_enter Try.func8, Try.ntmps8
    go_wp2
    go_ret
    exact ⟨rfl, rfl⟩

set_option maxHeartbeats 400000 in
theorem plain6 (a : Option Addr) (n c : Nat) (F : Nat → Int) (w : World) (hI : Inp .u8 w a n F) (hn : n ≤ 10000000) (hc : n ≤ c) :
    Calls Try.prog 6 #[.slice a n c] w fun e w' => e = .returned (.bool (plainB n F)) ∧ w' = w := by
  go_enter Try.func6, Try.ntmps6
  go_wp2_with (go_at_call 8; refine (plain8 a n c F _ hI hn hc).mono ?_; rintro e w ⟨rfl, rfl⟩)
  go_ret
  exact ⟨rfl, rfl⟩
end Go.Proofs.Qxb6629057a

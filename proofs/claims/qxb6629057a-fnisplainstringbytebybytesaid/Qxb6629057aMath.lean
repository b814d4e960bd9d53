/-
  THE PLAIN LAWS: counting the bytes that may be inserted; keeping the bytes that may stay. No Go in sight.
-/
import Derived.Test.Qxb6629057aPlain
namespace Go.Proofs.Qxb6629057a

/-- How many x below m may stand between the quotes. -/
def kc : Nat → Nat
  | 0 => 0
  | m + 1 => kc m + if okB (m : Int) = true then 1 else 0
theorem kc_all : kc 256 = 93 := by decide +kernel
theorem kc_le (m : Nat) : kc m ≤ m := by
  induction m with
  | zero => exact Nat.le_refl _
  | succ m ih => simp only [kc]; split <;> omega
theorem kc_yes {m : Nat} (h : okB (m : Int) = true) : kc (m + 1) = kc m + 1 := by simp [kc, h]
theorem kc_no {m : Nat} (h : okB (m : Int) = false) : kc (m + 1) = kc m := by simp [kc, h]

/-- The three bytes of 'one'. -/
def one (x : Int) : Nat → Int := fun t => if t = 1 then x else 34
theorem plain_one (x : Int) : plainB 3 (one x) = okB x := by simp [plainB, one, allOk]
theorem one_upd (x y : Int) (t : Nat) : one y t = upd (one x) 1 y t := by
  unfold one upd; split <;> simp_all

/-- F with x put in at place p. -/
def ins (F : Nat → Int) (p : Nat) (x : Int) : Nat → Int := fun t => if t < p then F t else if t = p then x else F (t - 1)
theorem ins_upd (F : Nat → Int) (p : Nat) (x y : Int) (t : Nat) : ins F p y t = upd (ins F p x) p y t := by
  unfold ins upd
  by_cases h : t = p
  · subst h; simp
  · simp [h]

/-- A row of zeros into which the first j values of F have been copied. -/
def buf2 (F : Nat → Int) (j : Nat) : Nat → Int := fun t => if t < j then F t else 0
theorem buf2_step (F : Nat → Int) (j t : Nat) : buf2 F (j + 1) t = upd (buf2 F j) j (F j) t := by
  unfold buf2 upd
  by_cases h : t = j
  · subst h; simp
  · by_cases h2 : t < j
    · simp [h, h2, Nat.lt_succ_of_lt h2]
    · have : ¬ t < j + 1 := by omega
      simp [h, h2, this]
/-- The same, the values from place p on copied one place further. -/
def buf3 (F : Nat → Int) (p j : Nat) : Nat → Int := fun t => if t < p then F t else if t = p then 0 else if t < j + 1 then F (t - 1) else 0
theorem buf3_start (F : Nat → Int) (p t : Nat) : buf3 F p p t = buf2 F p t := by
  unfold buf3 buf2
  by_cases h : t < p
  · simp [h]
  · by_cases h2 : t = p
    · simp [h2]
    · have : ¬ t < p + 1 := by omega
      simp [h, h2, this]
theorem buf3_step (F : Nat → Int) (p j t : Nat) (hj : p ≤ j) : buf3 F p (j + 1) t = upd (buf3 F p j) (j + 1) (F j) t := by
  unfold buf3 upd
  by_cases h : t = j + 1
  · subst h
    have h1 : ¬ j + 1 < p := by omega
    have h2 : ¬ j + 1 = p := by omega
    simp [h1, h2]
  · by_cases h1 : t < p
    · simp [h, h1]
    · by_cases h2 : t = p
      · subst h2; simp [h]
      · by_cases h3 : t < j + 1
        · have h4 : t < j + 1 + 1 := by omega
          simp [h, h1, h2, h3, h4]
        · have h4 : ¬ t < j + 1 + 1 := by omega
          simp [h, h1, h2, h3, h4]
theorem buf3_end (F : Nat → Int) (p n t : Nat) (ht : t < n + 1) : buf3 F p n t = ins F p 0 t := by
  unfold buf3 ins
  by_cases h1 : t < p
  · simp [h1]
  · by_cases h2 : t = p
    · simp [h2]
    · simp [h1, h2, ht]

theorem allOk_ins (F : Nat → Int) (p : Nat) (x : Int) (hp : 1 ≤ p) (m : Nat) : allOk (ins F p x) m = if m < p then allOk F m else allOk F (m - 1) && okB x := by
  induction m with
  | zero => have : 0 < p := by omega
            simp [allOk, this]
  | succ m ih =>
    simp only [allOk, ih]
    by_cases h1 : m + 1 < p
    · have h2 : m < p := by omega
      have e : ins F p x (m + 1) = F (m + 1) := by simp [ins, h1]
      simp [h1, h2, e]
    · by_cases h2 : m < p
      · have h3 : m + 1 = p := by omega
        have e : ins F p x (m + 1) = x := by simp [ins, h3]
        simp [h1, h2, e]
      · obtain ⟨q, rfl⟩ : ∃ q, m = q + 1 := ⟨m - 1, by omega⟩
        have e : ins F p x (q + 1 + 1) = F (q + 1) := by
          have h4 : ¬ q + 1 + 1 = p := by omega
          simp [ins, h1, h4]
        simp only [h1, h2, if_false, e]
        simp only [Nat.add_sub_cancel, allOk]
        cases allOk F q <;> cases okB x <;> cases okB (F (q + 1)) <;> rfl

theorem plain_ins (F : Nat → Int) (n p : Nat) (x : Int) (hp : 1 ≤ p) (hn : p + 1 ≤ n) : plainB (n + 1) (ins F p x) = (plainB n F && okB x) := by
  unfold plainB
  have e0 : ins F p x 0 = F 0 := by have : 0 < p := by omega
                                    simp [ins, this]
  have e1 : ins F p x (n + 1 - 1) = F (n - 1) := by
    have h1 : ¬ n < p := by omega
    have h2 : ¬ n = p := by omega
    simp [ins, h1, h2]
  have e2 : allOk (ins F p x) (n + 1 - 2) = (allOk F (n - 2) && okB x) := by
    rw [allOk_ins F p x hp, if_neg (by omega), show n + 1 - 2 - 1 = n - 2 from by omega]
  have h2 : 2 ≤ n := by omega
  have h3 : 2 ≤ n + 1 := by omega
  rw [e0, e1, e2]
  simp [h2, h3, Bool.and_assoc]

theorem Arr.inp {k : IntKind} {w : World} {b n : Nat} {f : Nat → Int} (h : Arr k w b n f) : Inp k w (some ⟨b, 0, none⟩) n f := fun hn =>
  ⟨b, 0, rfl, World.block_lt_of_cell? w _ (h 0 hn).1, fun i hi => by rw [Nat.zero_add]; exact (h i hi).1⟩

open Go.RowKit in
/-- ZZIsPlainString over a row of the call's own. -/
theorem plain6_arr (b n c : Nat) (f : Nat → Int) (w : World) (h : Arr .u8 w b n f) (hn : n ≤ 10000000) (hc : n ≤ c) {r : Bool} (hr : plainB n f = r) :
    Calls Try.prog 6 #[.slice (some ⟨b, 0, none⟩) n c] w fun e w' => e = .returned (.bool r) ∧ w' = w := by
  subst hr
  exact plain6 _ n c f w h.inp hn hc
end Go.Proofs.Qxb6629057a

/-
  (*Offsets).Place: its two roads.
-/
import Derived.Test.Qxb6628496aGrow
import Derived.RegionTactic
import Derived.BigRegion
namespace Go.Proofs.Qxb6628496a
open Go.RowKit
set_option linter.unusedVariables false

/-- The sum of the first values of f. -/
def pre (f : Nat → Int) : Nat → Int
  | 0 => 0
  | v + 1 => pre f v + f v

/-- What the counting loop of Place has made of the counts behind i rounds. -/
def mid (f : Nat → Int) (i : Nat) : Nat → Int := fun v => if v < i then pre f (v + 1) else f v
theorem mid_at (f : Nat → Int) (i : Nat) : mid f i i = f i := by simp [mid]
theorem mid_step (f : Nat → Int) (i j : Nat) : mid f (i + 1) j = upd (mid f i) i (pre f i + f i) j := by
  unfold mid upd
  by_cases h : j = i
  · subst h; simp [pre]
  · by_cases h2 : j < i
    · simp [h, h2, Nat.lt_succ_of_lt h2]
    · have : ¬ j < i + 1 := by omega
      simp [h, h2, this]

set_option maxHeartbeats 1000000 in
/-- The road of a Place that finds room made. -/
theorem put9 (p S L n c k d wi q : Nat) (y : Value) (off : Int) (w : World)
    (h0 : 0 ≤ off) (hoff : off < 9223372036854775808)
    (hn : ((n : Int) == 0) = false) (hn47 : n < 9000000000) (hk47 : k < 9000000000)
    (hp0 : w.cell? ⟨p, 0, none⟩ = some (.slice (some ⟨L, 0, none⟩) n c)) (hp1 : w.cell? ⟨p, 1, none⟩ = some (.slice (some ⟨S, 0, none⟩) k d))
    (hc : w.cell? ⟨S, wi, none⟩ = some (.int .i64 ((q : Int) + 1))) (hf : w.frozen? ⟨S, wi, none⟩ = false)
    (hcL : w.cell? ⟨L, q, none⟩ = some y) (hfL : w.frozen? ⟨L, q, none⟩ = false)
    (hSp : S ≠ p) (hLp : L ≠ p) (hLS : L ≠ S)
    (hwi : off / 65536 = (wi : Int)) (hw : wi < k) (hq : q < n) :
    Calls Try.prog 9 #[.pointer (some ⟨p, 0, none⟩), .int .i64 off] w fun e w' => e = .returned (.tuple #[]) ∧ w' = ((w.setCell ⟨S, wi, none⟩ (.int .i64 q)).setCell ⟨L, q, none⟩ (.int .u16 (IntKind.u16.wrap off))).drew := by
  go_enter Try.func9, Try.ntmps9
  go_wp2
  go_region
  go_end0
  exact ⟨rfl, rfl⟩

/-- The same, told by plain functions. -/
theorem put9_arr (p S L n c k d wi : Nat) (s l : Nat → Int) (off : Int) (w : World)
    (h0 : 0 ≤ off) (hoff : off < 9223372036854775808)
    (hn47 : n < 9000000000) (hk47 : k < 9000000000)
    (hp0 : w.cell? ⟨p, 0, none⟩ = some (.slice (some ⟨L, 0, none⟩) n c)) (hp1 : w.cell? ⟨p, 1, none⟩ = some (.slice (some ⟨S, 0, none⟩) k d))
    (hS : Arr .i64 w S k s) (hL : Arr .u16 w L n l) (hSp : S ≠ p) (hLp : L ≠ p) (hLS : L ≠ S)
    (hwi : off / 65536 = (wi : Int)) (hw : wi < k) (hs1 : 1 ≤ s wi) (hs2 : s wi ≤ n) :
    Calls Try.prog 9 #[.pointer (some ⟨p, 0, none⟩), .int .i64 off] w fun e w' => e = .returned (.tuple #[]) ∧ Keep [S, L] w w' ∧ Arr .i64 w' S k (upd s wi (s wi - 1)) ∧ Arr .u16 w' L n (upd l (s wi - 1).toNat (IntKind.u16.wrap off)) ∧ w'.heap.size = w.heap.size := by
  obtain ⟨q, hq⟩ : ∃ q : Nat, s wi = (q : Int) + 1 := ⟨(s wi - 1).toNat, by omega⟩
  have hqn : q < n := by omega
  refine (put9 p S L n c k d wi q _ off w h0 hoff (by rw [beq_eq_false_iff_ne]; omega) hn47 hk47 hp0 hp1 (by rw [hS.cell hw, hq]) (hS.free hw) (hL.cell hqn) (hL.free hqn) hSp hLp hLS hwi hw hqn).mono ?_
  rintro e w' ⟨rfl, rfl⟩
  have e1 : s wi - 1 = (q : Int) := by omega
  have e2 : (s wi - 1).toNat = q := by omega
  rw [e2, e1]
  refine ⟨rfl, (((Keep.refl _ _).setCell (by simp) _).setCell (by simp) _).drew, ?_, ?_, by simp⟩
  · exact ((hS.set hw _).other hLS _).drew
  · exact ((hL.other hLS.symm _).set hqn _).drew

set_option maxHeartbeats 2000000 in
/-- The road of the first Place: it turns the counts into the windows' ends, makes the room, and places. -/
theorem count9 (base : Option Addr) (p S k d wi q N : Nat) (f : Nat → Int) (off : Int) (w : World)
    (h0 : 0 ≤ off) (hoff : off < 9223372036854775808) (hk47 : k ≤ 1000000000)
    (hp0 : w.cell? ⟨p, 0, none⟩ = some (.slice base 0 0)) (hf0 : w.frozen? ⟨p, 0, none⟩ = false) (hp1 : w.cell? ⟨p, 1, none⟩ = some (.slice (some ⟨S, 0, none⟩) k d))
    (hS : Arr .i64 w S k f) (hSp : S ≠ p) (hpw : p < w.heap.size) (hSw : S < w.heap.size)
    (hfr : ∀ v, v < k → 0 ≤ f v) (hpb : ∀ v, v ≤ k → 0 ≤ pre f v ∧ pre f v ≤ N) (hN : pre f k = N) (hN47 : N ≤ 1000000000)
    (hwi : off / 65536 = (wi : Int)) (hw : wi < k) (hq : pre f (wi + 1) = (q : Int) + 1) :
    Calls Try.prog 9 #[.pointer (some ⟨p, 0, none⟩), .int .i64 off] w fun e w' => e = .returned (.tuple #[]) ∧ Keep [p, S] w w' ∧ (∃ G, w'.cell? ⟨p, 0, none⟩ = some (.slice (some ⟨w.heap.size, 0, none⟩) N G)) ∧
      w'.heap.size = w.heap.size + 1 ∧ w'.frozen? ⟨p, 0, none⟩ = false ∧ w'.cell? ⟨p, 1, none⟩ = some (.slice (some ⟨S, 0, none⟩) k d) ∧
      Arr .i64 w' S k (upd (fun v => pre f (v + 1)) wi q) ∧ Arr .u16 w' w.heap.size N (upd (fun _ => 0) q (IntKind.u16.wrap off)) := by
  have hqN : q < N := by have := (hpb (wi + 1) (by omega)).2; omega
  have hN0 : 0 < N := by omega
  go_enter Try.func9, Try.ntmps9
  go_wp2
  have HN : Hid (pre f k = N) := hN
  have HQ : Hid (pre f (wi + 1) = (q : Int) + 1) := hq
  clear hN hq
  go_loopw [4, 19] (fun n i wr => ∃ j : Nat, j ≤ k ∧ i = .int .i64 j ∧ n = .int .i64 (pre f j) ∧ Arr .i64 wr S k (mid f j) ∧ Keep [S] w wr ∧ wr.heap.size = w.heap.size)
    (fun _ i _ => k - (intOf i).toNat)
  case atStart => exact ⟨0, Nat.zero_le _, rfl, rfl, hS.congr (fun j _ => by simp [mid]), Keep.refl _ _, rfl⟩
  case round =>
    obtain ⟨j, hj, rfl, rfl, hA, hK, hsz⟩ := hrel
    have hrp0 : wr.cell? ⟨p, 0, none⟩ = some (.slice base 0 0) := (World.cell?_of_block (w := w) (hK.block p hpw (by simp; exact hSp.symm))).trans hp0
    have hrp1 : wr.cell? ⟨p, 1, none⟩ = some (.slice (some ⟨S, 0, none⟩) k d) := (World.cell?_of_block (w := w) (hK.block p hpw (by simp; exact hSp.symm))).trans hp1
    have hrf0 : wr.frozen? ⟨p, 0, none⟩ = false := (World.frozen?_of_block (w := w) (hK.block p hpw (by simp; exact hSp.symm))).trans hf0
    have HSZ : Hid (wr.heap.size = w.heap.size) := hsz
    clear hsz
    by_cases hjk : j < k
    · have hc1 := hA.cell hjk
      have hc2 := hA.free hjk
      rw [mid_at] at hc1
      have b1 := hpb j hj
      have b2 := hpb (j + 1) hjk
      have b3 := hfr j hjk
      have e1 : pre f (j + 1) = pre f j + f j := rfl
      rw [e1] at b2
      clear e1
      have hst := (hA.set hjk (pre f j + f j)).congr (g := mid f (j + 1)) (fun t _ => mid_step f j t)
      have hKt : Keep [S] w (wr.setCell ⟨S, j, none⟩ (.int .i64 (pre f j + f j))) := hK.setCell (by simp) _
      generalize hx : f j = x at hc1 b2 b3 hst hKt
      generalize ha : pre f j = a at b1 b2 hst hKt ⊢
      have HX : Hid (f j = x) := hx
      have HA : Hid (pre f j = a) := ha
      clear hx ha hpb hfr hA
      go_wp2
      go_roundw
      case rel => exact ⟨j + 1, by omega, by go_num, by rw [show pre f (j + 1) = pre f j + f j from rfl, HX.out, HA.out], hst, hKt, by simpa using HSZ.out⟩
      case measure => simp [intOf]; omega
    · have hjk' : k = j := by omega
      subst hjk'
      have hAe : Arr .i64 wr S k (fun v => pre f (v + 1)) := hA.congr (fun t ht => by simp [mid, ht])
      have hc1 : wr.cell? ⟨S, wi, none⟩ = some (.int .i64 ((q : Int) + 1)) := by rw [hAe.cell hw, HQ.out]
      have hc2 := hAe.free hw
      rw [HN.out]
      clear hpb hfr hA
      go_wp2_with (go_at_call 13; refine (grow13 base N wr hN0 hN47).mono ?_)
      rintro e w1 ⟨G, hG1, hG2, rfl, hK1, hsz1, hL⟩
      have hSr : S < wr.heap.size := by have := HSZ.out; omega
      have hpr : p < wr.heap.size := by have := HSZ.out; omega
      have b1 := hK1.block p hpr (by simp)
      have b2 := hK1.block S hSr (by simp)
      have g0 : w1.cell? ⟨p, 0, none⟩ = some (.slice base 0 0) := (World.cell?_of_block (w := wr) b1).trans hrp0
      have g1 : w1.cell? ⟨p, 1, none⟩ = some (.slice (some ⟨S, 0, none⟩) k d) := (World.cell?_of_block (w := wr) b1).trans hrp1
      have g2 : w1.frozen? ⟨p, 0, none⟩ = false := (World.frozen?_of_block (w := wr) b1).trans hrf0
      have g3 : w1.cell? ⟨S, wi, none⟩ = some (.int .i64 ((q : Int) + 1)) := (World.cell?_of_block (w := wr) b2).trans hc1
      have g4 : w1.frozen? ⟨S, wi, none⟩ = false := (World.frozen?_of_block (w := wr) b2).trans hc2
      have g5 := hL.cell hqN
      have g6 := hL.free hqN
      have hLp : wr.heap.size ≠ p := by omega
      have hLS : wr.heap.size ≠ S := by omega
      have hAw := hAe.block b2
      obtain ⟨L, hLe⟩ : ∃ L, wr.heap.size = L := ⟨_, rfl⟩
      rw [hLe] at hL g5 g6 hLp hLS hsz1 ⊢
      have HL : Hid (w.heap.size = L) := by have := HSZ.out; rw [← this]; exact hLe
      have HS1 : Hid (w1.heap.size = L + 1) := hsz1
      clear hLe hsz1 b1 b2 hrp0 hrp1 hrf0 hc1 hc2
      go_wp2
      go_region
      go_end0
      have hKw1 : Keep [p, S] w w1 := ⟨hK1.os.trans hK.os, hK1.tape.trans hK.tape, hK1.output.trans hK.output, Nat.le_trans hK.size hK1.size, fun b hb hn => (hK1.block b (Nat.lt_of_lt_of_le hb hK.size) (by simp)).trans (hK.block b hb (fun h => hn (by simp at h ⊢; exact .inr h)))⟩
      have hKL : Keep [p, S] w (w1.setCell ⟨p, 0, none⟩ (.slice (some ⟨L, 0, none⟩) N G) |>.setCell ⟨S, wi, none⟩ (.int .i64 q) |>.setCell ⟨L, q, none⟩ (.int .u16 (IntKind.u16.wrap off)) |>.drew) := by
        refine Keep.drew ?_
        have h1 := (hKw1.setCell (p := ⟨p, 0, none⟩) (by simp) (.slice (some ⟨L, 0, none⟩) N G)).setCell (p := ⟨S, wi, none⟩) (by simp) (.int .i64 q)
        refine ⟨h1.os, h1.tape, h1.output, by simpa using h1.size, fun b hb hn => ?_⟩
        rw [Below.heap_setCell _ _ _ _ (by show b ≠ L; have := HL.out; omega)]
        exact h1.block b hb hn
      refine ⟨rfl, hKL, ⟨G, ?_⟩, ?_, ?_, ?_, ?_, ?_⟩
      · rw [HL.out]
        show World.cell? (World.setCell _ _ _) _ = _
        rw [World.cell?_setCell_other _ _ _ _ (fun h => hLp (by cases h; rfl)), World.cell?_setCell_other _ _ _ _ (fun h => hSp (by cases h; rfl))]
        exact World.cell?_setCell_same _ _ _ g0
      · have := HS1.out; have := HL.out; simp; omega
      · simpa using g2
      · show World.cell? (World.setCell _ _ _) _ = _
        rw [World.cell?_setCell_other _ _ _ _ (fun h => hLp (by cases h; rfl)), World.cell?_setCell_other _ _ _ _ (fun h => hSp (by cases h; rfl)), World.cell?_setCell_other _ _ _ _ (fun h => by cases h)]
        exact g1
      · exact (((hAw.other hSp.symm _).set hw _).other hLS _).drew
      · rw [HL.out]
        exact (((hL.other hLp.symm _).other hLS.symm _).set hqN _).drew
end Go.Proofs.Qxb6628496a

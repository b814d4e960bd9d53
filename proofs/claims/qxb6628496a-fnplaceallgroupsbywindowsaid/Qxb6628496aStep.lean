/-
  ONE PLACE OF ALL: the state between two calls of Place in 'FnPlaceAllGroupsByWindow'.
-/
import Derived.Test.Qxb6628496aMake
namespace Go.Proofs.Qxb6628496a
open Go.RowKit
set_option linter.unusedVariables false

/-- j of the n offsets are placed. Block B: the counts; B + 1: starts; B + 2: the Offsets; B + 3: low, once it is made. -/
def PS (W : Nat → Nat) (F : Nat → Int) (n k B : Nat) (w0 w : World) (j : Nat) : Prop :=
  Below B w0 w ∧ Arr .i64 w B k (cnI W n) ∧ w.cell? ⟨B + 2, 1, none⟩ = some (.slice (some ⟨B + 1, 0, none⟩) k k) ∧
  ((j = 0 ∧ w.cell? ⟨B + 2, 0, none⟩ = some (.slice none 0 0) ∧ w.frozen? ⟨B + 2, 0, none⟩ = false ∧ Arr .i64 w (B + 1) k (cnI W n) ∧ w.heap.size = B + 3) ∨
   (0 < j ∧ ∃ G l, w.cell? ⟨B + 2, 0, none⟩ = some (.slice (some ⟨B + 3, 0, none⟩) n G) ∧ Arr .i64 w (B + 1) k (st W n j) ∧ Arr .u16 w (B + 3) n l ∧
      (∀ i, i < j → l (st W n (i + 1) (W i)).toNat = IntKind.u16.wrap (F i)) ∧ w.heap.size = B + 4))

theorem place_step (W : Nat → Nat) (F : Nat → Int) (n k B : Nat) (w0 w : World) (j : Nat) (h : PS W F n k B w0 w j) (hj : j < n) (hn : n ≤ 131072) (hk : k ≤ 65536) (hB : w0.heap.size = B)
    (hF : ∀ t, t < n → 0 ≤ F t ∧ F t < 4294967296) (hW : ∀ t, t < n → F t / 65536 = (W t : Int) ∧ W t < 65536) (hWk : ∀ t, t < n → W t < k) :
    Calls Try.prog 9 #[.pointer (some ⟨B + 2, 0, none⟩), .int .i64 (F j)] w fun e w' => e = .returned (.tuple #[]) ∧ PS W F n k B w0 w' (j + 1) := by
  obtain ⟨hb, hC, hp1, h⟩ := h
  have hFj := hF j hj
  have hWj := hW j hj
  have hkj := hWk j hj
  have htot := pre_cn W k n hWk
  have e1 := st_step W n j
  have e2 := st_nonneg W (n := n) (m := j + 1) (W j) (by omega)
  have e3 := st_lt W k n j hWk hj
  rcases h with ⟨rfl, hp0, hf0, hS, hsz⟩ | ⟨hj0, G, l, hp0, hS, hL, hl, hsz⟩
  · have e4 := st_start W n (W 0)
    refine (count9 none (B + 2) (B + 1) k k (W 0) (st W n (0 + 1) (W 0)).toNat n (cnI W n) (F 0) w hFj.1 (by omega) (by omega) hp0 hf0 hp1 hS (by omega) (by omega) (by omega)
      (fun v _ => cnI_nonneg _ _ _) (fun v hv => ⟨pre_nonneg (cnI_nonneg W n) v, by rw [← htot]; exact pre_mono (cnI_nonneg W n) hv⟩) htot (by omega) hWj.1 hkj (by omega)).mono ?_
    rintro e w' ⟨rfl, hK, ⟨G, q0⟩, q1, q2, q3, q4, q5⟩
    rw [hsz] at q0 q1 q5
    refine ⟨rfl, hK.below hb (by omega) (fun b hb => by simp at hb; omega), hC.keep hK (by omega) (by simp), q3, .inr ⟨by omega, G, _, q0, q4.congr (fun t _ => ?_), q5, fun i hi => ?_, q1⟩⟩
    · rw [st_upd]
      by_cases e : t = W 0
      · subst e; rw [upd_same, upd_same]; omega
      · rw [upd_other _ _ e, upd_other _ _ e, st_start]
    · obtain rfl : i = 0 := by omega
      rw [upd_same]
  · refine (put9_arr (B + 2) (B + 1) (B + 3) n G k k (W j) (st W n j) l (F j) w hFj.1 (by omega) (by omega) (by omega) hp0 hp1 hS hL (by omega) (by omega) (by omega) hWj.1 hkj (by omega) (by omega)).mono ?_
    rintro e w' ⟨rfl, hK, q1, q2, q3⟩
    have hpb : w'.heap[B + 2]? = w.heap[B + 2]? := hK.block _ (by omega) (by simp)
    refine ⟨rfl, hK.below hb (by have := hb.size; omega) (fun b hb => by simp at hb; omega), hC.keep hK (by omega) (by simp), (World.cell?_of_block (w := w) hpb).trans hp1, .inr ⟨by omega, G, _, (World.cell?_of_block (w := w) hpb).trans hp0, q1.congr (fun t _ => st_upd W n j t), q2, fun i hi => ?_, ?_⟩⟩
    · rw [← e1]
      by_cases e : i = j
      · subst e; rw [upd_same]
      · have h1 := st_ne W n i j (by omega) hj
        have h2 := st_nonneg W (n := n) (m := i + 1) (W i) (by omega)
        rw [upd_other _ _ (by omega)]
        exact hl i (by omega)
    · rw [q3]; exact hsz

theorem place_end (W : Nat → Nat) (F : Nat → Int) (n k B : Nat) (w0 w : World) (h : PS W F n k B w0 w n) :
    ∃ la lc l X, w.cell? ⟨B + 2, 0, none⟩ = some (.slice la n lc) ∧ w.cell? ⟨B + 2, 1, none⟩ = some (.slice (some ⟨B + 1, 0, none⟩) k k) ∧ Arr .i64 w B k (cnI W n) ∧ Arr .i64 w (B + 1) k (st W n n) ∧ w.heap.size = X ∧ B + 3 ≤ X ∧
      (0 < n → la = some ⟨B + 3, 0, none⟩ ∧ B + 3 < X ∧ Arr .u16 w (B + 3) n l ∧ ∀ i, i < n → l (st W n (i + 1) (W i)).toNat = IntKind.u16.wrap (F i)) := by
  obtain ⟨hb, hC, hp1, h⟩ := h
  rcases h with ⟨rfl, hp0, hf0, hS, hsz⟩ | ⟨hj0, G, l, hp0, hS, hL, hl, hsz⟩
  · exact ⟨none, 0, fun _ => 0, _, hp0, hp1, hC, hS.congr (fun t _ => st_zero W t), rfl, by omega, fun h => absurd h (Nat.lt_irrefl 0)⟩
  · exact ⟨_, G, l, _, hp0, hp1, hC, hS, rfl, by omega, fun _ => ⟨rfl, by omega, hL, hl⟩⟩
end Go.Proofs.Qxb6628496a

/-
  slices.Grow AT []uint16, called with an empty slice without capacity: a new row of zeros. After the shelf text on slices.Grow, turned to this program's numbers.
-/
import Derived.Test.Qxb6628496aSmall
import Derived.Lib.AppendZerosOnto
namespace Go.Proofs.Qxb6628496a
open Go.RowKit

theorem info33 : (Try.prog.info? 33).map (fun i => (i.zero, i.size, i.bytes)) = some (some (.int .u16 0), 1, 2) := by kernel_rfl
theorem info3 : (Try.prog.info? 3).map (fun i => (i.zero, i.size, i.bytes)) = some (some (.int .i64 0), 1, 8) := by kernel_rfl

theorem zeroCells_get (n i : Nat) (h : i < n) : (Builtin.zeroCells #[Value.int .u16 0] n)[i]? = some (.int .u16 0) := by
  simp [Builtin.zeroCells, h, Nat.mod_one]
theorem zeroCells_size (n : Nat) : (Builtin.zeroCells #[Value.int .u16 0] n).size = n := by
  simp [Builtin.zeroCells]

set_option maxHeartbeats 1000000 in
theorem grow13 (base : Option Addr) (n : Nat) (w : World) (hn : 0 < n) (hbig : n ≤ 1000000000) :
    Calls Try.prog 13 #[.slice base 0 0, .int .i64 n] w fun e w' => ∃ G, n ≤ G ∧ G ≤ 9223372036854775807 ∧ e = .returned (.slice (some ⟨w.heap.size, 0, none⟩) 0 G) ∧
      Keep [] w w' ∧ w'.heap.size = w.heap.size + 1 ∧ Arr .u16 w' w.heap.size n (fun _ => 0) := by
  obtain ⟨i0, hi0, hz0, hz1, hz2⟩ := info_parts info33
  have hold : (Builtin.firstCells i0.size 0 (.slice base 0 0)).run Try.prog w.drew = .ok ([] : List Value).toArray w.drew := by
    cases base with
    | none => exact run_firstCells_none w.drew i0.size 0 0 0
    | some a => exact run_firstCells_some w.drew i0.size 0 a 0 0 [] (by simp) (fun j v hj => by simp at hj)
  have hrz : ∀ ty, (Builtin.append_ #[22, 3] ty #[.slice base 0 0, .int .i64 n]).run Try.prog w =
      .ok (.slice (some ⟨w.heap.size, 0, none⟩) (0 + n) (grownCap w (0 + n) 0 33)) (w.drew.alloc (.cells (([] : List Value).toArray ++ Builtin.zeroCells (Value.int .u16 0).cells n ++ Builtin.zeroCells (Value.int .u16 0).cells (grownCap w (0 + n) 0 33 - (0 + n))) 33)) := fun ty =>
    Lib.run_append_grow_zeros w 22 3 ty 33 i0 (.int .u16 0) .i64 .i64 Try.underlying22 Try.underlying3 hi0 hz0 base 0 0 [] hold n hn (by omega) (by omega) (by omega) (by rw [hz2]; omega) (growslice_fits (by omega) (by rw [hz2]; omega))
  have hGn : 0 + n ≤ grownCap w (0 + n) 0 33 := grownCap_ge w _ _ _
  have hGm := grownCap_le_maxLen w (0 + n) 0 33 (by unfold maxLen; omega)
  rw [Nat.zero_add] at hrz hGn hGm
  obtain ⟨G, hG⟩ : ∃ G, G = grownCap w n 0 33 := ⟨_, rfl⟩
  rw [← hG] at hrz hGn hGm
  unfold maxLen at hGm
  clear hold hG
  have fin : ∀ w', w' = (w.alloc (.cells (Builtin.zeroCells #[Value.int .u16 0] n ++ Builtin.zeroCells #[Value.int .u16 0] (G - n)) 33)).drew → Keep [] w w' ∧ w'.heap.size = w.heap.size + 1 ∧ Arr .u16 w' w.heap.size n (fun _ => 0) := by
    intro w' e
    subst e
    refine ⟨((Keep.refl _ _).alloc _).drew, by simp, fun j hj => ⟨?_, ?_⟩⟩
    · show (w.alloc _).cell? _ = _
      rw [World.cell?_alloc_new, Array.getElem?_append_left (by rw [zeroCells_size]; exact hj)]
      exact zeroCells_get n j hj
    · show (w.alloc _).frozen? _ = _
      simp
  go_enter Try.func13, Try.ntmps13
  cases base with
  | none =>
    go_wp2_with (at_builtin; refine Lib.wpList_append_run _ rfl _ _ _ _ rfl _ _ rfl rfl _ _ (hrz _) ?_)
    all_goals (go_ret; exact ⟨G, hGn, by omega, rfl, fin _ rfl⟩)
  | some a =>
    obtain ⟨ab, ao, asp⟩ := a
    go_wp2_with (at_builtin; refine Lib.wpList_append_run _ rfl _ _ _ _ rfl _ _ rfl rfl _ _ (hrz _) ?_)
    all_goals (go_ret; exact ⟨G, hGn, by omega, rfl, fin _ rfl⟩)
end Go.Proofs.Qxb6628496a

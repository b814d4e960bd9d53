/-
  'make([]T, n)' of integers, told by a plain function; what came in, told by a plain function.
-/
import Derived.Test.Qxb6628496aMath
namespace Go.Proofs.Qxb6628496a
open Go.RowKit

theorem madeCells_get (z : Value) (n i : Nat) (h : i < n) : (madeCells #[z] n)[i]? = some z := by
  simp [madeCells, h, Nat.mod_one]

theorem wpList_make_arr {P : Program} (w : World) {ops : Array Oper} {rest : List Oper} {o : Oper} {a : Act} {Q : Exit → Act → World → Prop}
    (hg : o.guard = none) (l c : Operand) (t : TypeId) (hop : o.op = Op.makeSlice t l c)
    (e : TypeId) (i : TypeInfo) (k : IntKind) (h1 : P.underlying t = some (.slice e)) (h2 : P.info? e = some i) (h3 : i.zero = some (.int k 0)) (h4 : i.size = 1)
    (kl kc : IntKind) (L C : Int) (n : Nat) (hl : a.eval l = .int kl L) (hc : a.eval c = .int kc C) (hL : L = (n : Int)) (hC : C = (n : Int)) (b2 : i.bytes ≤ 8) (b3 : n ≤ 1000000000)
    (hK : ∀ w', Keep [] w w' → w'.heap.size = w.heap.size + 1 → Arr k w' w.heap.size n (fun _ => 0) → wpList P ops Q rest (a.put o.dst (.slice (some ⟨w.heap.size, 0, none⟩) n n)) w') :
    wpList P ops Q (o :: rest) a w := by
  refine wpList_plain hg fun K hK' => ?_
  have hb : (i.bytes : Int) * (n : Int) ≤ 281474976710656 := by
    have : i.bytes * n ≤ 8 * n := Nat.mul_le_mul_right _ b2
    have h : ((i.bytes * n : Nat) : Int) ≤ 281474976710656 := by omega
    rwa [Int.natCast_mul] at h
  have hrun := run_make (P := P) w t e i (.int k 0) h1 h2 h3 kl kc (n : Int) (n : Int) (by omega) (Int.le_refl _) hb (by omega)
  subst hL
  subst hC
  unfold Oper.wp
  simp [execOp, hop, hl, hc, hrun, Result.andThen]
  refine hK' _ _ (hK _ ((Keep.refl _ _).alloc _) (by simp) fun j hj => ⟨?_, ?_⟩)
  · rw [World.cell?_alloc_new, h4, Nat.mul_one]
    exact madeCells_get _ n j hj
  · exact World.frozen?_alloc_new _ _ _ _

/-- WHAT CAME IN: a slice of n elements, the values F 0 .. F (n-1); nothing is known of where an empty one lies. -/
def Inp (k : IntKind) (w : World) (a : Option Addr) (n : Nat) (F : Nat → Int) : Prop :=
  0 < n → ∃ b off, a = some ⟨b, off, none⟩ ∧ b < w.heap.size ∧ ∀ i, i < n → w.cell? ⟨b, off + i, none⟩ = some (.int k (F i))

theorem Inp.below {k : IntKind} {w w' : World} {a : Option Addr} {n : Nat} {F : Nat → Int} (h : Inp k w a n F) (hb : Below w.heap.size w w') : Inp k w' a n F := by
  intro hn
  obtain ⟨b, off, rfl, hlt, hc⟩ := h hn
  exact ⟨b, off, rfl, Nat.lt_of_lt_of_le hlt hb.size, fun i hi => (hb.cell (p := ⟨b, off + i, none⟩) hlt).trans (hc i hi)⟩

theorem Inp.at {k : IntKind} {w : World} {a : Option Addr} {n : Nat} {F : Nat → Int} (h : Inp k w a n F) {i : Nat} (hi : i < n) : ∃ b off, a = some ⟨b, off, none⟩ ∧ w.cell? ⟨b, off + i, none⟩ = some (.int k (F i)) := by
  obtain ⟨b, off, h1, _, h2⟩ := h (by omega)
  exact ⟨b, off, h1, h2 i hi⟩
end Go.Proofs.Qxb6628496a

/-
  WHAT THE WALKS OF THIS SEAT SHARE: rows of strings, told by a plain function; worlds that part in a few blocks alone. No program in sight.
-/
import Derived.WalkKit
import Derived.Deep.Draws
namespace Go.Proofs.Qxb6629087a
open Go.RowKit

/-- A plain function, turned at one place. -/
def upd (f : Nat → ByteArray) (i : Nat) (x : ByteArray) : Nat → ByteArray := fun j => if j = i then x else f j
theorem upd_same (f : Nat → ByteArray) (i : Nat) (x : ByteArray) : upd f i x i = x := by simp [upd]
theorem upd_other (f : Nat → ByteArray) {i j : Nat} (x : ByteArray) (h : j ≠ i) : upd f i x j = f j := by simp [upd, h]

/-- Block b holds the first n strings of f, from its head on; none of those cells is frozen. -/
def Arr (w : World) (b n : Nat) (f : Nat → ByteArray) : Prop :=
  ∀ j, j < n → w.cell? ⟨b, j, none⟩ = some (.string (f j)) ∧ w.frozen? ⟨b, j, none⟩ = false

theorem Arr.cell {w : World} {b n : Nat} {f : Nat → ByteArray} (h : Arr w b n f) {j : Nat} (hj : j < n) : w.cell? ⟨b, j, none⟩ = some (.string (f j)) := (h j hj).1
theorem Arr.free {w : World} {b n : Nat} {f : Nat → ByteArray} (h : Arr w b n f) {j : Nat} (hj : j < n) : w.frozen? ⟨b, j, none⟩ = false := (h j hj).2
theorem Arr.congr {w : World} {b n : Nat} {f g : Nat → ByteArray} (h : Arr w b n f) (e : ∀ j, j < n → g j = f j) : Arr w b n g :=
  fun j hj => ⟨by rw [e j hj]; exact (h j hj).1, (h j hj).2⟩
theorem Arr.block {w w' : World} {b n : Nat} {f : Nat → ByteArray} (h : Arr w b n f) (e : w'.heap[b]? = w.heap[b]?) : Arr w' b n f :=
  fun j hj => ⟨(World.cell?_of_block (w := w) (a := ⟨b, j, none⟩) e).trans (h j hj).1, (World.frozen?_of_block (w := w) (a := ⟨b, j, none⟩) e).trans (h j hj).2⟩
theorem frozen_setCell (w : World) (a p : Addr) (v : Value) : (w.setCell a v).frozen? p = w.frozen? p := by simp
theorem Arr.set {w : World} {b n : Nat} {f : Nat → ByteArray} (h : Arr w b n f) {i : Nat} (x : ByteArray) : Arr (w.setCell ⟨b, i, none⟩ (.string x)) b n (upd f i x) := by
  intro j hj
  refine ⟨?_, by rw [frozen_setCell]; exact (h j hj).2⟩
  by_cases e : j = i
  · subst e
    rw [upd_same]
    exact World.cell?_setCell_same _ _ _ (h j hj).1
  · rw [upd_other f x e, World.cell?_setCell_other _ _ _ _ (fun h' => e (by cases h'; rfl))]
    exact (h j hj).1

/-- w' is w with new blocks, and with writes to the blocks of the list alone. -/
structure Keep (bs : List Nat) (w w' : World) : Prop where
  os : w'.os = w.os
  tape : w'.tape = w.tape
  output : w'.output = w.output
  size : w.heap.size ≤ w'.heap.size
  block : ∀ b, b < w.heap.size → b ∉ bs → w'.heap[b]? = w.heap[b]?

theorem Keep.refl (bs : List Nat) (w : World) : Keep bs w w := ⟨rfl, rfl, rfl, Nat.le_refl _, fun _ _ _ => rfl⟩
theorem Keep.trans {bs : List Nat} {a b c : World} (h : Keep bs a b) (k : Keep bs b c) : Keep bs a c :=
  ⟨k.os.trans h.os, k.tape.trans h.tape, k.output.trans h.output, Nat.le_trans h.size k.size, fun i hi hb => (k.block i (Nat.lt_of_lt_of_le hi h.size) hb).trans (h.block i hi hb)⟩
theorem Keep.setCell {bs : List Nat} {a w : World} (h : Keep bs a w) {p : Addr} (hp : p.block ∈ bs) (u : Value) : Keep bs a (w.setCell p u) :=
  h.trans ⟨rfl, rfl, rfl, by simp [World.setCell], fun k _ hk => Below.heap_setCell _ _ _ _ (fun e => hk (by rw [e]; exact hp))⟩
theorem Keep.alloc {bs : List Nat} {a w : World} (h : Keep bs a w) (o : Obj) : Keep bs a (w.alloc o) :=
  h.trans ⟨rfl, rfl, rfl, by simp, fun k hk _ => Below.heap_alloc _ _ _ (by omega)⟩
theorem Keep.below {bs : List Nat} {B : Nat} {a w w' : World} (hb : Below B a w) (h : Keep bs w w') (hB : B ≤ w.heap.size) (hbs : ∀ b ∈ bs, B ≤ b) : Below B a w' :=
  hb.trans ⟨h.os, h.tape, h.output, h.size, fun k hk => h.block k (by omega) (fun hm => by have := hbs k hm; omega)⟩
theorem Keep.below0 {w w' : World} (h : Keep [] w w') : Below w.heap.size w w' := Keep.below (Below.refl _ _) h (Nat.le_refl _) (fun b hb => by cases hb)
theorem Arr.keep {w w' : World} {b n : Nat} {f : Nat → ByteArray} {bs : List Nat} (h : Arr w b n f) (hk : Keep bs w w') (hb : b < w.heap.size) (hn : b ∉ bs) : Arr w' b n f := h.block (hk.block b hb hn)
theorem Arr.below {w w' : World} {b n B : Nat} {f : Nat → ByteArray} (h : Arr w b n f) (hk : Below B w w') (hb : b < B) : Arr w' b n f := h.block (hk.block b hb)

/-- A slice of n strings, S 0 .. S (n-1); nothing is known of where an empty one lies. -/
def Inp (w : World) (a : Option Addr) (n : Nat) (S : Nat → ByteArray) : Prop :=
  0 < n → ∃ b off, a = some ⟨b, off, none⟩ ∧ b < w.heap.size ∧ ∀ i, i < n → w.cell? ⟨b, off + i, none⟩ = some (.string (S i))
theorem Inp.below {w w' : World} {a : Option Addr} {n : Nat} {S : Nat → ByteArray} (h : Inp w a n S) (hb : Below w.heap.size w w') : Inp w' a n S := by
  intro hn
  obtain ⟨b, off, rfl, hlt, hc⟩ := h hn
  exact ⟨b, off, rfl, Nat.lt_of_lt_of_le hlt hb.size, fun i hi => (hb.cell (p := ⟨b, off + i, none⟩) hlt).trans (hc i hi)⟩
theorem Inp.at {w : World} {a : Option Addr} {n : Nat} {S : Nat → ByteArray} (h : Inp w a n S) {i : Nat} (hi : i < n) : ∃ b off, a = some ⟨b, off, none⟩ ∧ w.cell? ⟨b, off + i, none⟩ = some (.string (S i)) := by
  obtain ⟨b, off, h1, _, h2⟩ := h (by omega)
  exact ⟨b, off, h1, h2 i hi⟩
theorem Arr.inp {w : World} {b n : Nat} {f : Nat → ByteArray} (h : Arr w b n f) : Inp w (some ⟨b, 0, none⟩) n f := fun hn =>
  ⟨b, 0, rfl, World.block_lt_of_cell? w _ (h 0 hn).1, fun i hi => by rw [Nat.zero_add]; exact (h i hi).1⟩

theorem madeCells_get (z : Value) (n i : Nat) (h : i < n) : (madeCells #[z] n)[i]? = some z := by
  simp [madeCells, h, Nat.mod_one]

/-- 'make([]string, n)'. -/
theorem wpList_make_arr {P : Program} (w : World) {ops : Array Oper} {rest : List Oper} {o : Oper} {a : Act} {Q : Exit → Act → World → Prop}
    (hg : o.guard = none) (l c : Operand) (t : TypeId) (hop : o.op = Op.makeSlice t l c)
    (e : TypeId) (i : TypeInfo) (s0 : ByteArray) (h1 : P.underlying t = some (.slice e)) (h2 : P.info? e = some i) (h3 : i.zero = some (.string s0)) (h4 : i.size = 1)
    (kl kc : IntKind) (L C : Int) (n : Nat) (hl : a.eval l = .int kl L) (hc : a.eval c = .int kc C) (hL : L = (n : Int)) (hC : C = (n : Int)) (b2 : i.bytes ≤ 16) (b3 : n ≤ 1000000000)
    (hK : ∀ w', Keep [] w w' → w'.heap.size = w.heap.size + 1 → Arr w' w.heap.size n (fun _ => s0) → wpList P ops Q rest (a.put o.dst (.slice (some ⟨w.heap.size, 0, none⟩) n n)) w') :
    wpList P ops Q (o :: rest) a w := by
  refine wpList_plain hg fun K hK' => ?_
  have hb : (i.bytes : Int) * (n : Int) ≤ 281474976710656 := by
    have : i.bytes * n ≤ 16 * n := Nat.mul_le_mul_right _ b2
    have h : ((i.bytes * n : Nat) : Int) ≤ 281474976710656 := by omega
    rwa [Int.natCast_mul] at h
  have hrun := run_make (P := P) w t e i (.string s0) h1 h2 h3 kl kc (n : Int) (n : Int) (by omega) (Int.le_refl _) hb (by omega)
  subst hL
  subst hC
  unfold Oper.wp
  simp [execOp, hop, hl, hc, hrun, Result.andThen]
  refine hK' _ _ (hK _ ((Keep.refl _ _).alloc _) (by simp) fun j hj => ⟨?_, ?_⟩)
  · rw [World.cell?_alloc_new, h4, Nat.mul_one]
    exact madeCells_get _ n j hj
  · exact World.frozen?_alloc_new _ _ _ _
end Go.Proofs.Qxb6629087a

/-
  WHAT THE WALKS OF THIS SEAT SHARE: rows of integers that the call itself made, told by a plain function; worlds that part in a few blocks alone. No program in sight.
-/
import Derived.WalkKit
import Derived.Deep.Draws
namespace Go.Proofs.Qxb6628496a
open Go.RowKit

theorem i64_and65535 (n : Int) : bits .and .i64 n 65535 = n % 65536 := by
  have hm : (BitVec.ofInt 64 65535).toNat = 2 ^ 16 - 1 := by decide
  have key : (BitVec.ofInt 64 n &&& BitVec.ofInt 64 65535).toNat = (n % ((2 ^ 64 : Nat) : Int)).toNat % 2 ^ 16 := by
    rw [BitVec.toNat_and, BitVec.toNat_ofInt, hm, Nat.and_two_pow_sub_one_eq_mod]
  show IntKind.i64.wrap ((BitVec.ofInt 64 n &&& BitVec.ofInt 64 65535).toNat : Nat) = n % 65536
  rw [key, IntKind.wrap_i64]
  omega
/-- 'uint16(z & 0xFFFF)' is 'uint16(z)'. -/
theorem low16 (z : Int) : IntKind.u16.wrap (bits .and .i64 z 65535) = IntKind.u16.wrap z := by
  rw [i64_and65535, IntKind.wrap_u16, IntKind.wrap_u16]; omega

/-- A plain function, turned at one place. -/
def upd (f : Nat → Int) (i : Nat) (x : Int) : Nat → Int := fun j => if j = i then x else f j
theorem upd_same (f : Nat → Int) (i : Nat) (x : Int) : upd f i x i = x := by simp [upd]
theorem upd_other (f : Nat → Int) {i j : Nat} (x : Int) (h : j ≠ i) : upd f i x j = f j := by simp [upd, h]

/-- Block b holds the first n values of f, from its head on; none of those cells is frozen. -/
def Arr (k : IntKind) (w : World) (b n : Nat) (f : Nat → Int) : Prop :=
  ∀ j, j < n → w.cell? ⟨b, j, none⟩ = some (.int k (f j)) ∧ w.frozen? ⟨b, j, none⟩ = false

theorem Arr.cell {k : IntKind} {w : World} {b n : Nat} {f : Nat → Int} (h : Arr k w b n f) {j : Nat} (hj : j < n) : w.cell? ⟨b, j, none⟩ = some (.int k (f j)) := (h j hj).1
theorem Arr.free {k : IntKind} {w : World} {b n : Nat} {f : Nat → Int} (h : Arr k w b n f) {j : Nat} (hj : j < n) : w.frozen? ⟨b, j, none⟩ = false := (h j hj).2

theorem Arr.congr {k : IntKind} {w : World} {b n : Nat} {f g : Nat → Int} (h : Arr k w b n f) (e : ∀ j, j < n → g j = f j) : Arr k w b n g :=
  fun j hj => ⟨by rw [e j hj]; exact (h j hj).1, (h j hj).2⟩

theorem Arr.block {k : IntKind} {w w' : World} {b n : Nat} {f : Nat → Int} (h : Arr k w b n f) (e : w'.heap[b]? = w.heap[b]?) : Arr k w' b n f :=
  fun j hj => ⟨(World.cell?_of_block (w := w) (a := ⟨b, j, none⟩) e).trans (h j hj).1, (World.frozen?_of_block (w := w) (a := ⟨b, j, none⟩) e).trans (h j hj).2⟩

theorem frozen_setCell (w : World) (a p : Addr) (v : Value) : (w.setCell a v).frozen? p = w.frozen? p := by simp

theorem Arr.set {k : IntKind} {w : World} {b n : Nat} {f : Nat → Int} (h : Arr k w b n f) {i : Nat} (hi : i < n) (x : Int) : Arr k (w.setCell ⟨b, i, none⟩ (.int k x)) b n (upd f i x) := by
  intro j hj
  refine ⟨?_, by rw [frozen_setCell]; exact (h j hj).2⟩
  by_cases e : j = i
  · subst e
    rw [upd_same]
    exact World.cell?_setCell_same _ _ _ (h j hj).1
  · rw [upd_other f x e, World.cell?_setCell_other _ _ _ _ (fun h' => e (by cases h'; rfl))]
    exact (h j hj).1

theorem Arr.other {k : IntKind} {w : World} {b n : Nat} {f : Nat → Int} (h : Arr k w b n f) {p : Addr} (hp : p.block ≠ b) (v : Value) : Arr k (w.setCell p v) b n f :=
  h.block (Below.heap_setCell w p v b (fun e => hp e.symm))

/-- w' is w with new blocks, and with writes to the blocks of the list alone. -/
structure Keep (bs : List Nat) (w w' : World) : Prop where
  os : w'.os = w.os
  tape : w'.tape = w.tape
  output : w'.output = w.output
  size : w.heap.size ≤ w'.heap.size
  block : ∀ b, b < w.heap.size → b ∉ bs → w'.heap[b]? = w.heap[b]?

theorem Keep.refl (bs : List Nat) (w : World) : Keep bs w w := ⟨rfl, rfl, rfl, Nat.le_refl _, fun _ _ _ => rfl⟩
theorem Keep.trans {bs : List Nat} {a b c : World} (h : Keep bs a b) (k : Keep bs b c) : Keep bs a c :=
  ⟨k.os.trans h.os, k.tape.trans h.tape, k.output.trans h.output, Nat.le_trans h.size k.size, fun i hi hb => (k.block i (Nat.lt_of_lt_of_le hi h.size) hb).trans (h.block i hi hb)⟩
theorem Keep.drew {bs : List Nat} {a w : World} (h : Keep bs a w) : Keep bs a w.drew := ⟨h.os, h.tape, h.output, h.size, h.block⟩
theorem Keep.drewN {bs : List Nat} {a w : World} (h : Keep bs a w) (n : Nat) : Keep bs a (w.drewN n) := ⟨h.os, h.tape, h.output, h.size, h.block⟩
theorem Keep.setCell {bs : List Nat} {a w : World} (h : Keep bs a w) {p : Addr} (hp : p.block ∈ bs) (u : Value) : Keep bs a (w.setCell p u) :=
  h.trans ⟨rfl, rfl, rfl, by simp [World.setCell], fun k _ hk => Below.heap_setCell _ _ _ _ (fun e => hk (by rw [e]; exact hp))⟩
theorem Keep.alloc {bs : List Nat} {a w : World} (h : Keep bs a w) (o : Obj) : Keep bs a (w.alloc o) :=
  h.trans ⟨rfl, rfl, rfl, by simp, fun k hk _ => Below.heap_alloc _ _ _ (by omega)⟩
theorem Keep.below {bs : List Nat} {B : Nat} {a w w' : World} (hb : Below B a w) (h : Keep bs w w') (hB : B ≤ w.heap.size) (hbs : ∀ b ∈ bs, B ≤ b) : Below B a w' :=
  hb.trans ⟨h.os, h.tape, h.output, h.size, fun k hk => h.block k (by omega) (fun hm => by have := hbs k hm; omega)⟩

theorem Arr.keep {k : IntKind} {w w' : World} {b n : Nat} {f : Nat → Int} {bs : List Nat} (h : Arr k w b n f) (hk : Keep bs w w') (hb : b < w.heap.size) (hn : b ∉ bs) : Arr k w' b n f := h.block (hk.block b hb hn)
theorem Arr.alloc {k : IntKind} {w : World} {b n : Nat} {f : Nat → Int} (h : Arr k w b n f) (hb : b < w.heap.size) (o : Obj) : Arr k (w.alloc o) b n f := h.block (Below.heap_alloc _ _ _ hb)
theorem Arr.drew {k : IntKind} {w : World} {b n : Nat} {f : Nat → Int} (h : Arr k w b n f) : Arr k w.drew b n f := h
theorem Arr.below {k : IntKind} {w w' : World} {b n B : Nat} {f : Nat → Int} (h : Arr k w b n f) (hk : Below B w w') (hb : b < B) : Arr k w' b n f := h.block (hk.block b hb)

end Go.Proofs.Qxb6628496a

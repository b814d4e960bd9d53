/-
  WHAT THE WALKS OF THIS SEAT SHARE: rows of integers that the call itself made, told by a plain function; worlds that part in a few blocks alone. No program in sight.
-/
import Derived.WalkKit
import Derived.Laws.CopyOwn
import Derived.Deep.Draws
namespace Go.Proofs.Qxb6629057a
open Go.RowKit

/-- A plain function, turned at one place. -/
def upd (f : Nat → Int) (i : Nat) (x : Int) : Nat → Int := fun j => if j = i then x else f j
theorem upd_same (f : Nat → Int) (i : Nat) (x : Int) : upd f i x i = x := by simp [upd]
theorem upd_other (f : Nat → Int) {i j : Nat} (x : Int) (h : j ≠ i) : upd f i x j = f j := by simp [upd, h]

/-- Block b holds the first n values of f, from its head on; none of those cells is frozen. -/
def Arr (k : IntKind) (w : World) (b n : Nat) (f : Nat → Int) : Prop :=
  ∀ j, j < n → w.cell? ⟨b, j, none⟩ = some (.int k (f j)) ∧ w.frozen? ⟨b, j, none⟩ = false

theorem Arr.cell {k : IntKind} {w : World} {b n : Nat} {f : Nat → Int} (h : Arr k w b n f) {j : Nat} (hj : j < n) : w.cell? ⟨b, j, none⟩ = some (.int k (f j)) := (h j hj).1
theorem Arr.free {k : IntKind} {w : World} {b n : Nat} {f : Nat → Int} (h : Arr k w b n f) {j : Nat} (hj : j < n) : w.frozen? ⟨b, j, none⟩ = false := (h j hj).2

theorem Arr.congr {k : IntKind} {w : World} {b n : Nat} {f g : Nat → Int} (h : Arr k w b n f) (e : ∀ j, j < n → g j = f j) : Arr k w b n g :=
  fun j hj => ⟨by rw [e j hj]; exact (h j hj).1, (h j hj).2⟩

theorem Arr.block {k : IntKind} {w w' : World} {b n : Nat} {f : Nat → Int} (h : Arr k w b n f) (e : w'.heap[b]? = w.heap[b]?) : Arr k w' b n f :=
  fun j hj => ⟨(World.cell?_of_block (w := w) (a := ⟨b, j, none⟩) e).trans (h j hj).1, (World.frozen?_of_block (w := w) (a := ⟨b, j, none⟩) e).trans (h j hj).2⟩

theorem frozen_setCell (w : World) (a p : Addr) (v : Value) : (w.setCell a v).frozen? p = w.frozen? p := by simp

theorem Arr.set {k : IntKind} {w : World} {b n : Nat} {f : Nat → Int} (h : Arr k w b n f) {i : Nat} (hi : i < n) (x : Int) : Arr k (w.setCell ⟨b, i, none⟩ (.int k x)) b n (upd f i x) := by
  intro j hj
  refine ⟨?_, by rw [frozen_setCell]; exact (h j hj).2⟩
  by_cases e : j = i
  · subst e
    rw [upd_same]
    exact World.cell?_setCell_same _ _ _ (h j hj).1
  · rw [upd_other f x e, World.cell?_setCell_other _ _ _ _ (fun h' => e (by cases h'; rfl))]
    exact (h j hj).1

theorem Arr.other {k : IntKind} {w : World} {b n : Nat} {f : Nat → Int} (h : Arr k w b n f) {p : Addr} (hp : p.block ≠ b) (v : Value) : Arr k (w.setCell p v) b n f :=
  h.block (Below.heap_setCell w p v b (fun e => hp e.symm))

/-- w' is w with new blocks, and with writes to the blocks of the list alone. -/
structure Keep (bs : List Nat) (w w' : World) : Prop where
  os : w'.os = w.os
  tape : w'.tape = w.tape
  output : w'.output = w.output
  size : w.heap.size ≤ w'.heap.size
  block : ∀ b, b < w.heap.size → b ∉ bs → w'.heap[b]? = w.heap[b]?

theorem Keep.refl (bs : List Nat) (w : World) : Keep bs w w := ⟨rfl, rfl, rfl, Nat.le_refl _, fun _ _ _ => rfl⟩
theorem Keep.trans {bs : List Nat} {a b c : World} (h : Keep bs a b) (k : Keep bs b c) : Keep bs a c :=
  ⟨k.os.trans h.os, k.tape.trans h.tape, k.output.trans h.output, Nat.le_trans h.size k.size, fun i hi hb => (k.block i (Nat.lt_of_lt_of_le hi h.size) hb).trans (h.block i hi hb)⟩
theorem Keep.drew {bs : List Nat} {a w : World} (h : Keep bs a w) : Keep bs a w.drew := ⟨h.os, h.tape, h.output, h.size, h.block⟩
theorem Keep.drewN {bs : List Nat} {a w : World} (h : Keep bs a w) (n : Nat) : Keep bs a (w.drewN n) := ⟨h.os, h.tape, h.output, h.size, h.block⟩
theorem Keep.setCell {bs : List Nat} {a w : World} (h : Keep bs a w) {p : Addr} (hp : p.block ∈ bs) (u : Value) : Keep bs a (w.setCell p u) :=
  h.trans ⟨rfl, rfl, rfl, by simp [World.setCell], fun k _ hk => Below.heap_setCell _ _ _ _ (fun e => hk (by rw [e]; exact hp))⟩
theorem Keep.alloc {bs : List Nat} {a w : World} (h : Keep bs a w) (o : Obj) : Keep bs a (w.alloc o) :=
  h.trans ⟨rfl, rfl, rfl, by simp, fun k hk _ => Below.heap_alloc _ _ _ (by omega)⟩
theorem Keep.below {bs : List Nat} {B : Nat} {a w w' : World} (hb : Below B a w) (h : Keep bs w w') (hB : B ≤ w.heap.size) (hbs : ∀ b ∈ bs, B ≤ b) : Below B a w' :=
  hb.trans ⟨h.os, h.tape, h.output, h.size, fun k hk => h.block k (by omega) (fun hm => by have := hbs k hm; omega)⟩

theorem Arr.keep {k : IntKind} {w w' : World} {b n : Nat} {f : Nat → Int} {bs : List Nat} (h : Arr k w b n f) (hk : Keep bs w w') (hb : b < w.heap.size) (hn : b ∉ bs) : Arr k w' b n f := h.block (hk.block b hb hn)
theorem Arr.alloc {k : IntKind} {w : World} {b n : Nat} {f : Nat → Int} (h : Arr k w b n f) (hb : b < w.heap.size) (o : Obj) : Arr k (w.alloc o) b n f := h.block (Below.heap_alloc _ _ _ hb)
theorem Arr.drew {k : IntKind} {w : World} {b n : Nat} {f : Nat → Int} (h : Arr k w b n f) : Arr k w.drew b n f := h
theorem Arr.below {k : IntKind} {w w' : World} {b n B : Nat} {f : Nat → Int} (h : Arr k w b n f) (hk : Below B w w') (hb : b < B) : Arr k w' b n f := h.block (hk.block b hb)

theorem madeCells_get (z : Value) (n i : Nat) (h : i < n) : (madeCells #[z] n)[i]? = some z := by
  simp [madeCells, h, Nat.mod_one]

/-- Block b is a row of n cells, none of them marked. -/
def Rw (w : World) (b n : Nat) : Prop := ∃ (cur : Array Value) (t : TypeId), w.heap[b]? = some (.cells cur t (0, 0)) ∧ cur.size = n

theorem wpList_make_arr {P : Program} (w : World) {ops : Array Oper} {rest : List Oper} {o : Oper} {a : Act} {Q : Exit → Act → World → Prop}
    (hg : o.guard = none) (l c : Operand) (t : TypeId) (hop : o.op = Op.makeSlice t l c)
    (e : TypeId) (i : TypeInfo) (k : IntKind) (h1 : P.underlying t = some (.slice e)) (h2 : P.info? e = some i) (h3 : i.zero = some (.int k 0)) (h4 : i.size = 1)
    (kl kc : IntKind) (L C : Int) (n : Nat) (hl : a.eval l = .int kl L) (hc : a.eval c = .int kc C) (hL : L = (n : Int)) (hC : C = (n : Int)) (b2 : i.bytes ≤ 8) (b3 : n ≤ 1000000000)
    (hK : ∀ w', Keep [] w w' → w'.heap.size = w.heap.size + 1 → Arr k w' w.heap.size n (fun _ => 0) → Rw w' w.heap.size n → wpList P ops Q rest (a.put o.dst (.slice (some ⟨w.heap.size, 0, none⟩) n n)) w') :
    wpList P ops Q (o :: rest) a w := by
  refine wpList_plain hg fun K hK' => ?_
  have hb : (i.bytes : Int) * (n : Int) ≤ 281474976710656 := by
    have : i.bytes * n ≤ 8 * n := Nat.mul_le_mul_right _ b2
    have h : ((i.bytes * n : Nat) : Int) ≤ 281474976710656 := by omega
    rwa [Int.natCast_mul] at h
  have hrun := run_make (P := P) w t e i (.int k 0) h1 h2 h3 kl kc (n : Int) (n : Int) (by omega) (Int.le_refl _) hb (by omega)
  subst hL
  subst hC
  unfold Oper.wp
  simp [execOp, hop, hl, hc, hrun, Result.andThen]
  refine hK' _ _ (hK _ ((Keep.refl _ _).alloc _) (by simp) (fun j hj => ⟨?_, ?_⟩) ⟨_, _, heap_alloc_new w _, ?_⟩)
  · rw [World.cell?_alloc_new, h4, Nat.mul_one]
    exact madeCells_get _ n j hj
  · exact World.frozen?_alloc_new _ _ _ _
  · rw [h4]; simp [madeCells]

/-- WHAT CAME IN: a slice of n elements, the values F 0 .. F (n-1); nothing is known of where an empty one lies. -/
def Inp (k : IntKind) (w : World) (a : Option Addr) (n : Nat) (F : Nat → Int) : Prop :=
  0 < n → ∃ b off, a = some ⟨b, off, none⟩ ∧ b < w.heap.size ∧ ∀ i, i < n → w.cell? ⟨b, off + i, none⟩ = some (.int k (F i))

theorem Inp.below {k : IntKind} {w w' : World} {a : Option Addr} {n : Nat} {F : Nat → Int} (h : Inp k w a n F) (hb : Below w.heap.size w w') : Inp k w' a n F := by
  intro hn
  obtain ⟨b, off, rfl, hlt, hc⟩ := h hn
  exact ⟨b, off, rfl, Nat.lt_of_lt_of_le hlt hb.size, fun i hi => (hb.cell (p := ⟨b, off + i, none⟩) hlt).trans (hc i hi)⟩

theorem Inp.at {k : IntKind} {w : World} {a : Option Addr} {n : Nat} {F : Nat → Int} (h : Inp k w a n F) {i : Nat} (hi : i < n) : ∃ b off, a = some ⟨b, off, none⟩ ∧ w.cell? ⟨b, off + i, none⟩ = some (.int k (F i)) := by
  obtain ⟨b, off, h1, _, h2⟩ := h (by omega)
  exact ⟨b, off, h1, h2 i hi⟩

/-- 'copy(dst, src)', dst a row of the call's own, as long as src: the run. -/
theorem run_copy_arr {P : Program} (w : World) (dT ty elem : TypeId) (hu : P.underlying dT = some (.slice elem)) (hsz : (P.info? elem).map (·.size) = some 1)
    (k : IntKind) (g n dCap sCap : Nat) (sp : Option Addr) (F : Nat → Int) (hrow : Rw w g n) (hI : Inp k w sp n F) :
    ∃ w', (Builtin.copy_ #[dT, dT] ty #[.slice (some ⟨g, 0, none⟩) n dCap, .slice sp n sCap]).run P w = .ok (goInt n) w' ∧ Keep [g] w w' ∧ w'.heap.size = w.heap.size ∧ Arr k w' g n F := by
  by_cases h0 : n = 0
  · subst h0
    exact ⟨w, run_copy_none (P := P) w dT dT ty elem _ _ _ _ _ _ hu hsz (by simp), Keep.refl _ _, rfl, fun j hj => absurd hj (Nat.not_lt_zero j)⟩
  · obtain ⟨b, off, rfl, _, hc⟩ := hI (by omega)
    obtain ⟨cur, t, hg, hcs⟩ := hrow
    have hlen : ((List.range n).map fun i => Value.int k (F i)).length = n := by simp
    have hrun := run_copy_row (P := P) w dT dT ty elem g 0 n dCap ⟨b, off, none⟩ n sCap cur t ((List.range n).map fun i => .int k (F i)) hu hsz hg (by simp) (by
      intro j v hj
      rw [List.getElem?_map] at hj
      by_cases hjn : j < n
      · rw [List.getElem?_range hjn] at hj
        simp at hj
        subst hj
        rw [WideShapes.add_plain]
        exact hc j hjn
      · rw [List.getElem?_eq_none (by simp; omega)] at hj
        simp at hj) (by simp [hcs]) (by
      intro v hv
      simp at hv
      obtain ⟨i, _, rfl⟩ := hv
      rfl)
    rw [hlen, List.append_assoc] at hrun
    have hg2 := setRow_heap w g cur (cur.toList.take 0 ++ ((List.range n).map (fun i => Value.int k (F i)) ++ cur.toList.drop (0 + n))).toArray t _ hg
    refine ⟨_, hrun, ⟨rfl, rfl, rfl, by simp [World.setRow], fun k' _ hk => setRow_other w g k' _ (fun e => hk (by simp [e]))⟩, by simp [World.setRow], fun j hj => ⟨?_, ?_⟩⟩
    · rw [cell_of_row _ g j _ t (0, 0) hg2]
      simp only [List.take_zero, List.nil_append, List.getElem?_toArray]
      rw [List.getElem?_append_left (by simpa using hj), List.getElem?_map, List.getElem?_range hj]
      rfl
    · exact frozen_of_row _ g j _ t hg2
end Go.Proofs.Qxb6629057a

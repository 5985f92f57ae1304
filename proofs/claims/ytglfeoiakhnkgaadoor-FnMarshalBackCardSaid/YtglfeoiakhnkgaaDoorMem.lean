/- Words for memory: a block that is known whole, and a world in which only one block and new ones have changed. No Go function in sight. -/
import Derived.WalkKit
import Derived.Deep.Draws
namespace Go.Proofs.YtglfeoiakhnkgaaDoor
open Go.RowKit

/-- Block g is just the cells cs of element type t, none of them frozen. -/
def Whole (w : World) (g : Nat) (t : TypeId) (cs : Array Value) : Prop := w.heap[g]? = some (.cells cs t (0, 0))

section
variable {w w' : World} {g : Nat} {t : TypeId} {cs : Array Value}
theorem Whole.lt (h : Whole w g t cs) : g < w.heap.size := (Array.getElem?_eq_some_iff.1 h).1
theorem Whole.cell (h : Whole w g t cs) (i : Nat) : w.cell? ⟨g, i, none⟩ = cs[i]? := cell_of_row w g i cs t (0, 0) h
theorem Whole.free (h : Whole w g t cs) (i : Nat) : w.frozen? ⟨g, i, none⟩ = false := by
  unfold Whole at h
  simp [World.frozen?, h]
theorem Whole.new (w : World) (t : TypeId) (cs : Array Value) : Whole (w.alloc (.cells cs t)) w.heap.size t cs := heap_alloc_new w _
theorem Whole.drew (h : Whole w g t cs) : Whole w.drew g t cs := h
theorem Whole.drewN (h : Whole w g t cs) (n : Nat) : Whole (w.drewN n) g t cs := h
theorem Whole.alloc (h : Whole w g t cs) (o : Obj) : Whole (w.alloc o) g t cs := (Below.heap_alloc w o g h.lt).trans h
theorem Whole.put (h : Whole w g t cs) (i : Nat) (u : Value) : Whole (w.setCell ⟨g, i, none⟩ u) g t (cs.setIfInBounds i u) := by
  unfold Whole at h ⊢
  simp [World.setCell, Array.getElem?_modify, h]
theorem Whole.far (h : Whole w g t cs) {p : Addr} (hp : g ≠ p.block) (u : Value) : Whole (w.setCell p u) g t cs := (Below.heap_setCell w p u g hp).trans h
theorem Whole.below {B : Nat} (h : Whole w g t cs) (hb : Below B w w') (hg : g < B) : Whole w' g t cs := (hb.block g hg).trans h
theorem Whole.grown {row : Option Nat} (h : Whole w g t cs) (hb : w.grownBy w' row) (hg : some g ≠ row) : Whole w' g t cs := (hb.block g h.lt hg).trans h
end

section
variable {a w w' : World} {row : Option Nat}
theorem grow_refl (w : World) (row : Option Nat) : w.grownBy w row := World.grownBy.refl w row
theorem grow_drewN (h : a.grownBy w row) (n : Nat) : a.grownBy (w.drewN n) row := ⟨h.os, h.tape, h.output, h.size, h.block⟩
theorem grow_drew (h : a.grownBy w row) : a.grownBy w.drew row := ⟨h.os, h.tape, h.output, h.size, h.block⟩
theorem grow_alloc (h : a.grownBy w row) (o : Obj) : a.grownBy (w.alloc o) row :=
  ⟨h.os, h.tape, h.output, Nat.le_trans h.size (by simp), fun i hi hne => (Below.heap_alloc w o i (Nat.lt_of_lt_of_le hi h.size)).trans (h.block i hi hne)⟩
theorem grow_put {g : Nat} (h : a.grownBy w (some g)) {p : Addr} (hp : p.block = g ∨ a.heap.size ≤ p.block) (u : Value) : a.grownBy (w.setCell p u) (some g) := by
  refine ⟨h.os, h.tape, h.output, by simpa [World.setCell] using h.size, fun i hi hne => (Below.heap_setCell w p u i ?_).trans (h.block i hi hne)⟩
  rintro rfl
  rcases hp with hp | hp
  · exact hne (by rw [hp])
  · omega
theorem grow_trans {c : World} (h : a.grownBy w row) (k : w.grownBy c row) : a.grownBy c row :=
  ⟨k.os.trans h.os, k.tape.trans h.tape, k.output.trans h.output, Nat.le_trans h.size k.size, fun i hi hne => (k.block i (Nat.lt_of_lt_of_le hi h.size) hne).trans (h.block i hi hne)⟩
/-- A block that is new to a may be written. -/
theorem grow_trans_new {c : World} {g : Nat} (h : a.grownBy w row) (k : w.grownBy c (some g)) (hg : a.heap.size ≤ g) : a.grownBy c row :=
  ⟨k.os.trans h.os, k.tape.trans h.tape, k.output.trans h.output, Nat.le_trans h.size k.size,
    fun i hi hne => (k.block i (Nat.lt_of_lt_of_le hi h.size) (fun e => by injection e with e; omega)).trans (h.block i hi hne)⟩
theorem grow_of_below (h : Below a.heap.size a w) (row : Option Nat) : a.grownBy w row := ⟨h.os, h.tape, h.output, h.size, fun i hi _ => h.block i hi⟩
theorem below_of_grow (h : a.grownBy w none) : Below a.heap.size a w := ⟨h.os, h.tape, h.output, h.size, fun i hi => h.block i hi (by simp)⟩
theorem grow_any (h : a.grownBy w none) (row : Option Nat) : a.grownBy w row := grow_of_below (below_of_grow h) row
theorem below_drewN {B : Nat} (h : Below B a w) (n : Nat) : Below B a (w.drewN n) := ⟨h.os, h.tape, h.output, h.size, h.block⟩
theorem below_trans {B : Nat} {c : World} (h : Below B a w) (k : Below B w c) : Below B a c := h.trans k
end

theorem free_later {w wx : World} {a : Addr} {v : Value} (hb : Below w.heap.size w wx) (h : w.cell? a = some v) (hf : w.frozen? a = false) : wx.frozen? a = false :=
  (hb.frozen (World.block_lt_of_cell? _ _ h)).trans hf
theorem size_later {w wx : World} {n : Nat} (hb : Below w.heap.size w wx) (h : n < w.heap.size) : n < wx.heap.size := Nat.lt_of_lt_of_le h hb.size

theorem ret_int {k : IntKind} {a b : Int} (h : a = b) : Ending.returned (.int k a) = .returned (.int k b) := by rw [h]
end Go.Proofs.YtglfeoiakhnkgaaDoor

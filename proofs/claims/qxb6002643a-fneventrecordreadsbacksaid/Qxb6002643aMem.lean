import Derived.WalkKit
import Derived.Below
namespace Go.Proofs.Qxb6002643a
open Go.RowKit
set_option linter.unusedVariables false

/-- block g is a row of the cells xs, none frozen -/
def Blk (w : World) (g : Nat) (e : TypeId) (xs : List Value) : Prop := w.heap[g]? = some (.cells xs.toArray e (0, 0))

section
variable {w w' : World} {g : Nat} {e : TypeId} {xs : List Value} {j : Nat} {v : Value}

theorem Blk.lt (h : Blk w g e xs) : g < w.heap.size := lt_of_block h
theorem Blk.cell (h : Blk w g e xs) (hx : xs[j]? = some v) : w.cell? ⟨g, j, none⟩ = some v := by
  unfold Blk at h; simp [World.cell?, h, hx]
theorem Blk.free (h : Blk w g e xs) (j : Nat) : w.frozen? ⟨g, j, none⟩ = false := by
  unfold Blk at h; simp [World.frozen?, h]
theorem Blk.of_block (h : Blk w g e xs) (hb : w'.heap[g]? = w.heap[g]?) : Blk w' g e xs := by
  unfold Blk at *; rw [hb, h]
theorem Blk.setCell (h : Blk w g e xs) (j : Nat) (v : Value) : Blk (w.setCell ⟨g, j, none⟩ v) g e (xs.set j v) := by
  unfold Blk at *
  have hl : g < w.heap.size := lt_of_block h
  simp only [World.setCell]
  rw [Array.getElem?_modify]
  simp [h]
theorem Blk.setCell_other (h : Blk w g e xs) {a : Addr} (hne : g ≠ a.block) (v : Value) : Blk (w.setCell a v) g e xs :=
  h.of_block (Below.heap_setCell w a v g hne)
theorem Blk.alloc (h : Blk w g e xs) (o : Obj) : Blk (w.alloc o) g e xs := h.of_block (Below.heap_alloc w o g h.lt)
theorem Blk.drew (h : Blk w g e xs) : Blk w.drew g e xs := h
theorem Blk.below {B : Nat} (h : Blk w g e xs) (hb : Below B w w') (hg : g < B) : Blk w' g e xs := h.of_block (hb.block g hg)
theorem Blk.grown {row : Option Nat} (h : Blk w g e xs) (hb : w.grownBy w' row) (hg : some g ≠ row) : Blk w' g e xs := h.of_block (hb.block g h.lt hg)
theorem Blk.new (w : World) (e : TypeId) (xs : List Value) : Blk (w.alloc (.cells xs.toArray e)) w.heap.size e xs := heap_alloc_new w _
theorem Blk.of_eq {ys : List Value} (h : Blk w g e xs) (he : xs = ys) : Blk w g e ys := he ▸ h
end

/-- what lay below stays: cells -/
theorem bcell {W w1 : World} {B : Nat} (hb : Below B W w1) {b o : Nat} {v : Value} (h : W.cell? ⟨b, o, none⟩ = some v) (hl : b < B) : w1.cell? ⟨b, o, none⟩ = some v :=
  (hb.cell (p := ⟨b, o, none⟩) hl).trans h
theorem cell_lt {W : World} {b o : Nat} {v : Value} (h : W.cell? ⟨b, o, none⟩ = some v) : b < W.heap.size := World.block_lt_of_cell? W ⟨b, o, none⟩ h

theorem madeCells_list (z : Value) (n : Nat) : madeCells #[z] n = (List.replicate n z).toArray := by
  have := toList_madeCells_one z n
  rw [← this]

end Go.Proofs.Qxb6002643a

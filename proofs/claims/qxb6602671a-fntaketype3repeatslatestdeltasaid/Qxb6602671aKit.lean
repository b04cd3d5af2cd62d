import Derived.WalkKit
import Derived.WalkSpells
import Derived.WalkLawsBesides
/- A BLOCK OF CELLS, KNOWN WHOLE: carried from world to world. No program in sight. -/
namespace Go.Kx
open Go.RowKit

/-- Block g is a row of the cells 'arr', none of them frozen. -/
def Blk (W : World) (g : Nat) (arr : Array Value) (t : TypeId) : Prop := W.heap[g]? = some (.cells arr t (0, 0))

section
variable {W W' : World} {g : Nat} {arr : Array Value} {t : TypeId}

theorem Blk.lt (h : Blk W g arr t) : g < W.heap.size := lt_of_block h
theorem Blk.cell (h : Blk W g arr t) : ∀ o, W.cell? ⟨g, o, none⟩ = arr[o]? := fun o => cell_of_row W g o arr t (0, 0) h
theorem Blk.free (h : Blk W g arr t) : ∀ o, W.frozen? ⟨g, o, none⟩ = false := fun o => frozen_of_row W g o arr t h
theorem Blk.later (h : Blk W g arr t) (hb : Below W.heap.size W W') : Blk W' g arr t := (hb.block g h.lt).trans h
theorem Blk.below (h : Blk W g arr t) {B : Nat} (hb : Below B W W') (hg : g < B) : Blk W' g arr t := (hb.block g hg).trans h
theorem Blk.alloc (h : Blk W g arr t) (o : Obj) : Blk (W.alloc o) g arr t := (Below.heap_alloc W o g h.lt).trans h
theorem Blk.new (W : World) (arr : Array Value) (t : TypeId) : Blk (W.alloc (.cells arr t)) W.heap.size arr t := heap_alloc_new W _
theorem Blk.set (h : Blk W g arr t) (i : Nat) (v : Value) : Blk (W.setCell ⟨g, i, none⟩ v) g (arr.setIfInBounds i v) t := heap_setCell_same W g i arr t v h
theorem Blk.other (h : Blk W g arr t) (p : Addr) (v : Value) (hne : g ≠ p.block) : Blk (W.setCell p v) g arr t := (heap_setCell_other W p g v hne).trans h
theorem Blk.drew (h : Blk W g arr t) : Blk W.drew g arr t := h
theorem Blk.drewN (h : Blk W g arr t) (n : Nat) : Blk (W.drewN n) g arr t := h
theorem Blk.congr (h : Blk W g arr t) {arr' : Array Value} (e : arr = arr') : Blk W g arr' t := e ▸ h
end

theorem bcell {W w1 : World} (hb : Below W.heap.size W w1) : (∀ b o, b < W.heap.size → w1.cell? ⟨b, o, none⟩ = W.cell? ⟨b, o, none⟩) ∧ (∀ b o, b < W.heap.size → w1.frozen? ⟨b, o, none⟩ = W.frozen? ⟨b, o, none⟩) :=
  ⟨fun b o h => hb.cell (p := ⟨b, o, none⟩) h, fun b o h => hb.frozen (p := ⟨b, o, none⟩) h⟩

theorem below_alloc {w W : World} (h : Below w.heap.size w W) (o : Obj) : Below w.heap.size w (W.alloc o) := h.alloc h.size o
theorem below_next {w W W' : World} (h : Below w.heap.size w W) (k : Below W.heap.size W W') : Below w.heap.size w W' := h.trans (k.mono h.size)
theorem below_set {w W : World} (h : Below w.heap.size w W) {p : Addr} (hp : w.heap.size ≤ p.block) (v : Value) : Below w.heap.size w (W.setCell p v) := h.setCell hp v

end Go.Kx

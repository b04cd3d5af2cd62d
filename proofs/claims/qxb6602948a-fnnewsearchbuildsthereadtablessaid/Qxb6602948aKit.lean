import Derived.WalkKit
import Derived.WalkSpells
import Derived.WalkLawsBesides
/- A BLOCK OF CELLS, KNOWN WHOLE: carried from world to world. No program in sight. -/
namespace Go.Kx
open Go.RowKit

/-- Block g is a row of the cells 'arr', none of them frozen. -/
def Blk (W : World) (g : Nat) (arr : Array Value) (t : TypeId) : Prop := W.heap[g]? = some (.cells arr t (0, 0))

section
variable {W W' : World} {g : Nat} {arr : Array Value} {t : TypeId}

theorem Blk.lt (h : Blk W g arr t) : g < W.heap.size := lt_of_block h
theorem Blk.cell (h : Blk W g arr t) : ∀ o, W.cell? ⟨g, o, none⟩ = arr[o]? := fun o => cell_of_row W g o arr t (0, 0) h
theorem Blk.free (h : Blk W g arr t) : ∀ o, W.frozen? ⟨g, o, none⟩ = false := fun o => frozen_of_row W g o arr t h
theorem Blk.later (h : Blk W g arr t) (hb : Below W.heap.size W W') : Blk W' g arr t := (hb.block g h.lt).trans h
theorem Blk.below (h : Blk W g arr t) {B : Nat} (hb : Below B W W') (hg : g < B) : Blk W' g arr t := (hb.block g hg).trans h
theorem Blk.alloc (h : Blk W g arr t) (o : Obj) : Blk (W.alloc o) g arr t := (Below.heap_alloc W o g h.lt).trans h
theorem Blk.new (W : World) (arr : Array Value) (t : TypeId) : Blk (W.alloc (.cells arr t)) W.heap.size arr t := heap_alloc_new W _
theorem Blk.set (h : Blk W g arr t) (i : Nat) (v : Value) : Blk (W.setCell ⟨g, i, none⟩ v) g (arr.setIfInBounds i v) t := heap_setCell_same W g i arr t v h
theorem Blk.other (h : Blk W g arr t) (p : Addr) (v : Value) (hne : g ≠ p.block) : Blk (W.setCell p v) g arr t := (heap_setCell_other W p g v hne).trans h
theorem Blk.drew (h : Blk W g arr t) : Blk W.drew g arr t := h
theorem Blk.drewN (h : Blk W g arr t) (n : Nat) : Blk (W.drewN n) g arr t := h
theorem Blk.congr (h : Blk W g arr t) {arr' : Array Value} (e : arr = arr') : Blk W g arr' t := e ▸ h
end

theorem bcell {W w1 : World} (hb : Below W.heap.size W w1) : (∀ b o, b < W.heap.size → w1.cell? ⟨b, o, none⟩ = W.cell? ⟨b, o, none⟩) ∧ (∀ b o, b < W.heap.size → w1.frozen? ⟨b, o, none⟩ = W.frozen? ⟨b, o, none⟩) :=
  ⟨fun b o h => hb.cell (p := ⟨b, o, none⟩) h, fun b o h => hb.frozen (p := ⟨b, o, none⟩) h⟩

theorem below_alloc {w W : World} (h : Below w.heap.size w W) (o : Obj) : Below w.heap.size w (W.alloc o) := h.alloc h.size o
theorem below_next {w W W' : World} (h : Below w.heap.size w W) (k : Below W.heap.size W W') : Below w.heap.size w W' := h.trans (k.mono h.size)
theorem below_set {w W : World} (h : Below w.heap.size w W) {p : Addr} (hp : w.heap.size ≤ p.block) (v : Value) : Below w.heap.size w (W.setCell p v) := h.setCell hp v


/-! ### ROWS AS FUNCTIONS -/
/-- n cells, cell j holds f j. -/
def rowOf (f : Nat → Value) (n : Nat) : Array Value := ((List.range n).map f).toArray

theorem rowOf_size (f : Nat → Value) (n : Nat) : (rowOf f n).size = n := by simp [rowOf]
theorem rowOf_get (f : Nat → Value) {n j : Nat} (h : j < n) : (rowOf f n)[j]? = some (f j) := by simp [rowOf, h]
theorem rowOf_toList (f : Nat → Value) (n : Nat) : (rowOf f n).toList = (List.range n).map f := rfl
theorem rowOf_congr {f g : Nat → Value} {n : Nat} (h : ∀ j, j < n → f j = g j) : rowOf f n = rowOf g n := by
  unfold rowOf
  rw [List.map_congr_left (fun j hj => h j (List.mem_range.1 hj))]

/-- one place turned -/
def upd {α : Type} (f : Nat → α) (i : Nat) (v : α) : Nat → α := fun j => if j = i then v else f j
theorem upd_same {α : Type} (f : Nat → α) (i : Nat) (v : α) : upd f i v i = v := by simp [upd]
theorem upd_ne {α : Type} (f : Nat → α) {i j : Nat} (v : α) (h : j ≠ i) : upd f i v j = f j := by simp [upd, h]

theorem rowOf_set (f : Nat → Value) (n i : Nat) (v : Value) : (rowOf f n).setIfInBounds i v = rowOf (upd f i v) n := by
  apply Array.ext'
  rw [Array.toList_setIfInBounds, rowOf_toList, rowOf_toList]
  apply List.ext_getElem?
  intro j
  simp only [List.getElem?_set, List.getElem?_map, List.length_map, List.length_range]
  by_cases hj : j < n
  · by_cases e : i = j
    · subst e; simp [upd, hj]
    · have e' : ¬ j = i := fun h => e h.symm
      simp [upd, hj, e, e']
  · by_cases e : i = j
    · subst e; simp [hj]
    · simp [hj, e]

theorem rowOf_const (z : Value) (n : Nat) : rowOf (fun _ => z) n = madeCells #[z] n := by
  apply Array.ext'
  rw [toList_madeCells_one, rowOf_toList]
  apply List.ext_getElem?
  intro j
  by_cases hj : j < n <;> simp [hj]

/-- WHAT IS KNOWN OF A SLICE: nil; or so many cells in a row, cell j holding f j. -/
def Rw (W : World) (a : Option Addr) (n c : Nat) (f : Nat → Value) : Prop :=
  (a = none → n = 0 ∧ c = 0) ∧ ∀ x, a = some x → ∀ j, j < n → W.cell? (x.add j) = some (f j)

section
variable {W W' : World} {a : Option Addr} {n c : Nat} {f : Nat → Value}

theorem Rw.later (h : Rw W a n c f) (hb : Below W.heap.size W W') : Rw W' a n c f := ⟨h.1, fun x hx j hj => cell_later hb (h.2 x hx j hj)⟩

theorem Rw.plain (h : Rw W a n c f) (h0 : 0 < n) : ∃ b off, a = some ⟨b, off, none⟩ ∧ b < W.heap.size ∧ ∀ j, j < n → W.cell? ⟨b, off + j, none⟩ = some (f j) := by
  cases a with
  | none => have := h.1 rfl; omega
  | some x =>
    obtain ⟨b, off, spot⟩ := x
    have h1 := h.2 _ rfl 0 h0
    have hs : spot = none := by simpa [Addr.add] using World.cell?_spot h1
    subst hs
    exact ⟨b, off, rfl, by simpa [Addr.add] using World.block_lt_of_cell? _ _ h1, fun j hj => by rw [← Addr.add_lit]; exact h.2 _ rfl j hj⟩

/-- a slice over a whole block -/
theorem Rw.of_blk {g : Nat} {t : TypeId} {m : Nat} (h : Blk W g (rowOf f m) t) (hn : n ≤ m) : Rw W (some ⟨g, 0, none⟩) n c f := by
  refine ⟨by simp, fun x hx j hj => ?_⟩
  obtain rfl := Option.some.inj hx
  rw [Addr.add_lit, h.cell, Nat.zero_add]
  exact rowOf_get f (by omega)
theorem Rw.nil (W : World) (f : Nat → Value) : Rw W none 0 0 f := ⟨fun _ => ⟨rfl, rfl⟩, by simp⟩
end

end Go.Kx

import Derived.Test.Qxb6602948aNv
import Derived.Test.Qxb6602948aR2
import Derived.Test.Qxb6602948aRt
import Derived.Test.Qxb6602948aCt
/- THE SEARCH IN MEMORY -/
namespace Go.Proofs.Qxb6602948a
open Go.RowKit Go.Kx Go.Maps
set_option linter.unusedVariables false

structure Dis (Lo Bm S p s t f q d : Nat) : Prop where
  lS : Lo ≤ S ∧ S < Bm
  lp : Lo ≤ p ∧ p < Bm
  ls : Lo ≤ s ∧ s < Bm
  lt : Lo ≤ t ∧ t < Bm
  lf : Lo ≤ f ∧ f < Bm
  lq : Lo ≤ q ∧ q < Bm
  ld : Lo ≤ d ∧ d < Bm
  S' : p ≠ S ∧ s ≠ S ∧ t ≠ S ∧ f ≠ S ∧ q ≠ S ∧ d ≠ S
  s' : p ≠ s ∧ t ≠ s ∧ f ≠ s ∧ q ≠ s ∧ d ≠ s
  t' : p ≠ t ∧ f ≠ t ∧ q ≠ t ∧ d ≠ t
  f' : p ≠ f ∧ q ≠ f ∧ d ≠ f

abbrev sl (b k : Nat) : Value := .slice (some ⟨b, 0, none⟩) k k
abbrev scs (H n items p s t f q d : Nat) (us : Nat → Value) (nv pv : Value) : Array Value := #[.pointer (some ⟨H, 0, none⟩), sl p n, sl s n, sl t n, sl f (n + 1), us n, nv, pv, sl q items, us (n + 1), sl d n]

/-- us: what the slices in the search say; uf: what they are to say -/
structure Nst (w0 wr : World) (H n items S p s t f q d Bm : Nat) (us uf : Nat → Value) (ls : Nat → List Int) (frd : Nat → Int) (nv pv : Value) : Prop where
  bS : Blk wr S (scs H n items p s t f q d us nv pv) 67
  bp : Blk wr p (rowOf (fun _ => .bool false) n) 4
  bs : Blk wr s (rowOf us n) 22
  bt : Blk wr t (rowOf (fun j => us (n + 3 + j)) n) 22
  bf : Blk wr f (rowOf (ints .i64 frd) (n + 1)) 3
  bq : Blk wr q (rowOf (fun _ => .slice none 0 0) items) 22
  bd : Blk wr d (rowOf (fun _ => .int .i64 0) n) 3
  fam : Fam wr (Bm + 1) (2 * n + 3) uf ls
  bel : Below w0.heap.size w0 wr
  sz : Bm + 1 ≤ wr.heap.size
  dis : Dis w0.heap.size Bm S p s t f q d

section
variable {w0 wr w' : World} {H n items S p s t f q d Bm : Nat} {us uf : Nat → Value} {ls : Nat → List Int} {frd : Nat → Int} {nv pv : Value}

/-- nothing of it has turned -/
theorem Nst.same (h : Nst w0 wr H n items S p s t f q d Bm us uf ls frd nv pv) (hk : ∀ b, b ≠ Bm → b < wr.heap.size → w'.heap[b]? = wr.heap[b]?) (ho : w'.os = wr.os ∧ w'.tape = wr.tape ∧ w'.output = wr.output) (hs : wr.heap.size ≤ w'.heap.size) (hB : w0.heap.size ≤ Bm) :
    Nst w0 w' H n items S p s t f q d Bm us uf ls frd nv pv := by
  have D := h.dis
  refine ⟨(hk S (by have := D.lS; omega) h.bS.lt).trans h.bS, (hk p (by have := D.lp; omega) h.bp.lt).trans h.bp, (hk s (by have := D.ls; omega) h.bs.lt).trans h.bs, (hk t (by have := D.lt; omega) h.bt.lt).trans h.bt, (hk f (by have := D.lf; omega) h.bf.lt).trans h.bf, (hk q (by have := D.lq; omega) h.bq.lt).trans h.bq, (hk d (by have := D.ld; omega) h.bd.lt).trans h.bd, h.fam.same (fun b hb hlt => hk b (by omega) hlt), ?_, Nat.le_trans h.sz hs, h.dis⟩
  have hsz := h.bel.size
  exact h.bel.trans ⟨ho.1, ho.2.1, ho.2.2, hs, fun k hk' => hk k (by omega) (by omega)⟩
theorem Nst.drew (h : Nst w0 wr H n items S p s t f q d Bm us uf ls frd nv pv) : Nst w0 wr.drew H n items S p s t f q d Bm us uf ls frd nv pv :=
  ⟨h.bS, h.bp, h.bs, h.bt, h.bf, h.bq, h.bd, ⟨h.fam.row, h.fam.apart, h.fam.emp⟩, h.bel.drew, h.sz, h.dis⟩
theorem Nst.alloc (h : Nst w0 wr H n items S p s t f q d Bm us uf ls frd nv pv) (o : Obj) : Nst w0 (wr.alloc o) H n items S p s t f q d Bm us uf ls frd nv pv :=
  ⟨h.bS.alloc o, h.bp.alloc o, h.bs.alloc o, h.bt.alloc o, h.bf.alloc o, h.bq.alloc o, h.bd.alloc o, h.fam.same (fun b _ hb => Below.heap_alloc _ _ _ hb), below_alloc h.bel _, by have := h.sz; simp; omega, h.dis⟩

theorem Nst.first (h : Nst w0 wr H n items S p s t f q d Bm us uf ls frd nv pv) (k : Nat) (z : Int) : Nst w0 (wr.setCell ⟨f, k, none⟩ (.int .i64 z)) H n items S p s t f q d Bm us uf ls (upd frd k z) nv pv := by
  have D := h.dis
  have hsz := h.sz
  refine ⟨h.bS.other _ _ (by simp; exact fun e => D.S'.2.2.2.1 e.symm), h.bp.other _ _ (by simp; exact D.f'.1), h.bs.other _ _ (by simp; exact fun e => D.s'.2.2.1 e.symm), h.bt.other _ _ (by simp; exact fun e => D.t'.2.1 e.symm), (h.bf.set k _).congr ?_, h.bq.other _ _ (by simp; exact D.f'.2.1), h.bd.other _ _ (by simp; exact D.f'.2.2), h.fam.same (fun b hb _ => heap_setCell_other wr _ b _ (by simp; have := D.lf; omega)), h.bel.setCell (by simp; exact D.lf.1) _, by simpa using hsz, D⟩
  rw [rowOf_set]; apply rowOf_congr; intro j _; by_cases e : j = k <;> simp [upd, e]

/-- a row has grown; what the search says is old yet -/
theorem Nst.grow (h : Nst w0 wr H n items S p s t f q d Bm us us ls frd nv pv) {j : Nat} {o : Obj} {u' : Value} {z : Int} (hj : j < 2 * n + 3)
    (ho : w'.ownsRow (Bm + 1) 3 1 u' ((ls j).length + 1) ((ls j).map (Value.int .i64) ++ [.int .i64 z])) (hg : (wr.alloc o).grownBy w' (us j).ownBlock) (hloc : u'.ownBlock = (us j).ownBlock ∨ u'.ownBlock = some (wr.alloc o).heap.size) :
    Nst w0 w' H n items S p s t f q d Bm us (upd us j u') (upd ls j (ls j ++ [z])) frd nv pv := by
  have D := h.dis
  have hsz := h.sz
  have hk : ∀ b, b < Bm + 1 → w'.heap[b]? = wr.heap[b]? := fun b hb => (hg.block b (by simp; omega) (fun e => by have := ((h.fam.row j hj).lt b e.symm).1; omega)).trans (Below.heap_alloc _ _ _ (by omega))
  have hlo := D.lS
  refine ⟨(hk S (by omega)).trans h.bS, (hk p (by have := D.lp; omega)).trans h.bp, (hk s (by have := D.ls; omega)).trans h.bs, (hk t (by have := D.lt; omega)).trans h.bt, (hk f (by have := D.lf; omega)).trans h.bf, (hk q (by have := D.lq; omega)).trans h.bq, (hk d (by have := D.ld; omega)).trans h.bd, h.fam.push hj ho hg hloc, ?_, by have := hg.size; simp at this; omega, D⟩
  exact (below_alloc h.bel _).grown hg (by have := h.bel.size; simp; omega) (fun k hk' => by have := ((h.fam.row j hj).lt k hk').1; omega)

theorem rowOf_upd_ge {us : Nat → Value} {j n : Nat} {u : Value} (h : n ≤ j) : rowOf (upd us j u) n = rowOf us n := rowOf_congr fun i hi => upd_ne _ _ (by omega)

theorem fam_set {w : World} {base m : Nat} {us : Nat → Value} {ls : Nat → List Int} (h : Fam w base m us ls) (pt : Addr) (v : Value) (hp : pt.block < base) : Fam (w.setCell pt v) base m us ls :=
  h.same fun b hb _ => heap_setCell_other w pt b v (by omega)

/-- the reader's row is told to the search -/
theorem Nst.setR {u' : Value} (h : Nst w0 wr H n items S p s t f q d Bm us (upd us n u') ls frd nv pv) : Nst w0 (wr.setCell ⟨S, 5, none⟩ u') H n items S p s t f q d Bm (upd us n u') (upd us n u') ls frd nv pv := by
  have D := h.dis
  refine ⟨(h.bS.set 5 u').congr ?_, h.bp.other _ _ D.S'.1, (h.bs.other _ _ D.S'.2.1).congr (rowOf_upd_ge (Nat.le_refl _)).symm, (h.bt.other _ _ D.S'.2.2.1).congr ?_, h.bf.other _ _ D.S'.2.2.2.1, h.bq.other _ _ D.S'.2.2.2.2.1, h.bd.other _ _ D.S'.2.2.2.2.2, fam_set h.fam _ _ (by have := D.lS; simp; omega), h.bel.setCell (by simp; exact D.lS.1) _, by simpa using h.sz, D⟩
  · simp [upd]
  · exact rowOf_congr fun i _ => (upd_ne _ _ (by omega)).symm
/-- the writer's row -/
theorem Nst.setW {u' : Value} (h : Nst w0 wr H n items S p s t f q d Bm us (upd us (n + 1) u') ls frd nv pv) : Nst w0 (wr.setCell ⟨S, 9, none⟩ u') H n items S p s t f q d Bm (upd us (n + 1) u') (upd us (n + 1) u') ls frd nv pv := by
  have D := h.dis
  refine ⟨(h.bS.set 9 u').congr ?_, h.bp.other _ _ D.S'.1, (h.bs.other _ _ D.S'.2.1).congr (rowOf_upd_ge (by omega)).symm, (h.bt.other _ _ D.S'.2.2.1).congr ?_, h.bf.other _ _ D.S'.2.2.2.1, h.bq.other _ _ D.S'.2.2.2.2.1, h.bd.other _ _ D.S'.2.2.2.2.2, fam_set h.fam _ _ (by have := D.lS; simp; omega), h.bel.setCell (by simp; exact D.lS.1) _, by simpa using h.sz, D⟩
  · simp [upd]
  · exact rowOf_congr fun i _ => (upd_ne _ _ (by omega)).symm
/-- the versions' row stands in a variable -/
theorem Nst.setV {u' : Value} (h : Nst w0 wr H n items S p s t f q d Bm us (upd us (n + 2) u') ls frd nv pv) : Nst w0 wr H n items S p s t f q d Bm (upd us (n + 2) u') (upd us (n + 2) u') ls frd nv pv := by
  refine ⟨h.bS.congr ?_, h.bp, h.bs.congr (rowOf_upd_ge (by omega)).symm, h.bt.congr ?_, h.bf, h.bq, h.bd, h.fam, h.bel, h.sz, h.dis⟩
  · simp [upd]
  · exact rowOf_congr fun i _ => (upd_ne _ _ (by omega)).symm
/-- a row of sources -/
theorem Nst.setS {k : Nat} {u' : Value} (hk : k < n) (h : Nst w0 wr H n items S p s t f q d Bm us (upd us k u') ls frd nv pv) : Nst w0 (wr.setCell ⟨s, k, none⟩ u') H n items S p s t f q d Bm (upd us k u') (upd us k u') ls frd nv pv := by
  have D := h.dis
  refine ⟨(h.bS.other _ _ (fun e => D.S'.2.1 e.symm)).congr ?_, h.bp.other _ _ D.s'.1, (h.bs.set k u').congr (rowOf_set us n k u'), (h.bt.other _ _ D.s'.2.1).congr ?_, h.bf.other _ _ D.s'.2.2.1, h.bq.other _ _ D.s'.2.2.2.1, h.bd.other _ _ D.s'.2.2.2.2, fam_set h.fam _ _ (by have := D.ls; simp; omega), h.bel.setCell (by simp; exact D.ls.1) _, by simpa using h.sz, D⟩
  · simp [upd, show n ≠ k by omega, show n + 1 ≠ k by omega]
  · exact rowOf_congr fun i _ => (upd_ne _ _ (by omega)).symm
/-- a row of writes -/
theorem Nst.setT {k : Nat} {u' : Value} (hk : k < n) (h : Nst w0 wr H n items S p s t f q d Bm us (upd us (n + 3 + k) u') ls frd nv pv) : Nst w0 (wr.setCell ⟨t, k, none⟩ u') H n items S p s t f q d Bm (upd us (n + 3 + k) u') (upd us (n + 3 + k) u') ls frd nv pv := by
  have D := h.dis
  refine ⟨(h.bS.other _ _ (fun e => D.S'.2.2.1 e.symm)).congr ?_, h.bp.other _ _ D.t'.1, (h.bs.other _ _ (fun e => D.s'.2.1 e.symm)).congr (rowOf_upd_ge (by omega)).symm, (h.bt.set k u').congr ?_, h.bf.other _ _ D.t'.2.1, h.bq.other _ _ D.t'.2.2.1, h.bd.other _ _ D.t'.2.2.2, fam_set h.fam _ _ (by have := D.lt; simp; omega), h.bel.setCell (by simp; exact D.lt.1) _, by simpa using h.sz, D⟩
  · simp [upd, show n ≠ n + 3 + k by omega, show n + 1 ≠ n + 3 + k by omega]
  · rw [rowOf_set]
    apply rowOf_congr
    intro i _
    by_cases e : i = k
    · subst e; simp [upd]
    · simp [upd, e]
end
end Go.Proofs.Qxb6602948a

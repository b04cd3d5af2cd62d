import Derived.Test.Qxb6602948aLx
/- THE LAW'S OWN ROWS -/
namespace Go.Proofs.Qxb6602948a
open Go.RowKit Go.Kx Go.Maps
set_option linter.unusedVariables false

theorem rw_at {W : World} {b o n c j : Nat} {f : Nat → Value} (h : Rw W (some ⟨b, o, none⟩) n c f) (hj : j < n) : W.cell? ⟨b, o + j, none⟩ = some (f j) := by
  have := h.2 _ rfl j hj
  rwa [Addr.add_lit] at this
theorem rw_cell {W : World} {b n c j : Nat} {f : Nat → Value} (h : Rw W (some ⟨b, 0, none⟩) n c f) (hj : j < n) : W.cell? ⟨b, j, none⟩ = some (f j) := by
  have := rw_at h hj
  rwa [Nat.zero_add] at this

theorem eql_nil (a : Option Addr) (n c : Nat) (b : Bool) (h : a.isNone = b) (w : World) : (binOp .eql 22 (.slice a n c) (.slice none 0 0)).run Try.prog w = .ok (.bool b) w := by
  have h2 := run_equal_slice_nil (P := Try.prog) w 22 3 a n c Try.underlying22
  rw [h] at h2
  simp only [binOp]
  simp [h2]

/-- the numbers of r reads are known -/
structure Ei (p : Nat → Int × Int) (rn Bi : Nat) (W0 : World) (r : Nat) (v : Value) (wr : World) : Prop where
  f : wr.ownsRow (Bi + 1) 3 1 v (fo p r).length ((fo p r).map (fun j => Value.int .i64 ((j : Nat) : Int)))
  bi : Blk wr Bi (rowOf (ints .i64 (idr p r)) rn) 3
  bel : Below W0.heap.size W0 wr
  sz : Bi + 1 ≤ wr.heap.size
  lo : W0.heap.size ≤ Bi
section
variable {p : Nat → Int × Int} {rn Bi : Nat} {W0 : World} {r : Nat} {v : Value} {wr : World}
theorem Ei.start (p : Nat → Int × Int) (rn : Nat) (W0 : World) : Ei p rn W0.heap.size W0 0 (.slice none 0 0) (W0.alloc (.cells (rowOf (fun _ => .int .i64 0) rn) 3)) :=
  ⟨World.ownsRow_nil _ _ _ _, (Blk.new W0 _ 3).congr (rowOf_congr fun j _ => by simp [ints, idr]), below_alloc (Below.refl _ _) _, by simp, Nat.le_refl _⟩
theorem Ei.drewN (h : Ei p rn Bi W0 r v wr) (m : Nat) : Ei p rn Bi W0 r v (wr.drewN m) := ⟨h.f, h.bi, below_drewN h.bel m, h.sz, h.lo⟩
theorem Ei.old (h : Ei p rn Bi W0 r v wr) (ho : ∃ j, j < r ∧ p j = p r) : Ei p rn Bi W0 (r + 1) v (wr.setCell ⟨Bi, r, none⟩ (.int .i64 ((idv p r : Nat) : Int))) := by
  refine ⟨?_, ((h.bi.set r _).congr (ints_set _ rn r _)).congr (idr_step p r rn), h.bel.setCell (by simp; exact h.lo) _, by simpa using h.sz, h.lo⟩
  rw [fo_old p ho]
  exact ownsRow_same h.f fun b _ hb => heap_setCell_other wr _ b _ (by simp; omega)
theorem Ei.new {u' : Value} {w9 : World} {o : Obj} (h : Ei p rn Bi W0 r v wr) (ho : ¬ ∃ j, j < r ∧ p j = p r)
    (hw : w9.ownsRow (Bi + 1) 3 1 u' ((fo p r).length + 1) ((fo p r).map (fun j => Value.int .i64 ((j : Nat) : Int)) ++ [.int .i64 ((r : Nat) : Int)])) (hg : ((wr.setCell ⟨Bi, r, none⟩ (.int .i64 (((fo p r).length : Nat) : Int))).alloc o).grownBy w9 v.ownBlock) : Ei p rn Bi W0 (r + 1) u' w9 := by
  have hsz := h.sz
  have hlo := h.lo
  have hl : Bi < (wr.setCell ⟨Bi, r, none⟩ (.int .i64 (((fo p r).length : Nat) : Int))).heap.size := by simp; omega
  have hne : some Bi ≠ v.ownBlock := fun e => by have := (h.f.lt Bi e.symm).1; omega
  refine ⟨?_, ?_, ?_, ?_, hlo⟩
  · rw [fo_new p ho]; simpa using hw
  · refine (hg.block Bi (by simp; omega) hne).trans ((Below.heap_alloc _ _ _ hl).trans ?_)
    rw [← idv_new p ho]
    exact ((h.bi.set r _).congr (ints_set _ rn r _)).congr (idr_step p r rn)
  · refine (below_alloc (h.bel.setCell (p := ⟨Bi, r, none⟩) (by simp; exact hlo) _) _).grown hg ?_ ?_
    · have := h.bel.size; simp; omega
    · intro k hk
      have := (h.f.lt k hk).1
      omega
  · have := hg.size; simp at this; omega
end

/-- each once: the row, and nil while it is empty -/
structure Wn (g : Nat → Int) (W0 : World) (k : Nat) (v : Value) (wr : World) : Prop where
  f : wr.ownsRow W0.heap.size 3 1 v (srcN g k).length ((srcN g k).map (Value.int .i64))
  emp : srcN g k = [] → v = .slice none 0 0
  bel : Below W0.heap.size W0 wr
section
variable {g : Nat → Int} {W0 : World} {k : Nat} {v : Value} {wr : World}
theorem Wn.start (g : Nat → Int) (W0 : World) : Wn g W0 0 (.slice none 0 0) W0 := ⟨World.ownsRow_nil _ _ _ _, fun _ => rfl, Below.refl _ _⟩
theorem Wn.old (h : Wn g W0 k v wr) (hin : g k ∈ srcN g k) : Wn g W0 (k + 1) v wr := by
  have e := srcN_old hin
  exact ⟨by rw [e]; exact h.f, by rw [e]; exact h.emp, h.bel⟩
theorem Wn.new {u' : Value} {w9 : World} {o : Obj} (h : Wn g W0 k v wr) (hin : g k ∉ srcN g k)
    (hw : w9.ownsRow W0.heap.size 3 1 u' ((srcN g k).length + 1) ((srcN g k).map (Value.int .i64) ++ [.int .i64 (g k)])) (hg : (wr.alloc o).grownBy w9 v.ownBlock) : Wn g W0 (k + 1) u' w9 := by
  have e := srcN_new hin
  refine ⟨by rw [e]; simpa using hw, fun hn => ?_, ?_⟩
  · rw [e] at hn; simp at hn
  · refine (below_alloc h.bel _).grown hg ?_ ?_
    · have := h.bel.size; simp; omega
    · intro k' hk
      exact (h.f.lt k' hk).1
end

/-- the law's three rows -/
structure Fr (W0 : World) (Be rn vn : Nat) (en ep la : Nat → Int) (wr : World) : Prop where
  be : Blk wr Be (rowOf (ints .i64 en) (rn + vn)) 3
  bp : Blk wr (Be + 1) (rowOf (ints .i64 ep) (rn + vn)) 3
  bl : Blk wr (Be + 2) (rowOf (ints .i64 la) vn) 3
  bel : Below W0.heap.size W0 wr
  lo : W0.heap.size ≤ Be
section
variable {W0 : World} {Be rn vn : Nat} {en ep la : Nat → Int} {wr : World}
theorem Fr.setE (h : Fr W0 Be rn vn en ep la wr) (j : Nat) (z : Int) : Fr W0 Be rn vn (upd en j z) ep la (wr.setCell ⟨Be, j, none⟩ (.int .i64 z)) :=
  ⟨(h.be.set j _).congr (ints_set _ _ j z), h.bp.other _ _ (by simp), h.bl.other _ _ (by simp), h.bel.setCell (by simp; exact h.lo) _, h.lo⟩
theorem Fr.setP (h : Fr W0 Be rn vn en ep la wr) (j : Nat) (z : Int) : Fr W0 Be rn vn en (upd ep j z) la (wr.setCell ⟨Be + 1, j, none⟩ (.int .i64 z)) :=
  ⟨h.be.other _ _ (by simp), (h.bp.set j _).congr (ints_set _ _ j z), h.bl.other _ _ (by simp), h.bel.setCell (by simp; have := h.lo; omega) _, h.lo⟩
theorem Fr.setL (h : Fr W0 Be rn vn en ep la wr) (j : Nat) (z : Int) : Fr W0 Be rn vn en ep (upd la j z) (wr.setCell ⟨Be + 2, j, none⟩ (.int .i64 z)) :=
  ⟨h.be.other _ _ (by simp), h.bp.other _ _ (by simp), (h.bl.set j _).congr (ints_set _ _ j z), h.bel.setCell (by simp; have := h.lo; omega) _, h.lo⟩
theorem Fr.laIs {la' : Nat → Int} (h : Fr W0 Be rn vn en ep la wr) (e : ∀ j, j < vn → la j = la' j) : Fr W0 Be rn vn en ep la' wr :=
  ⟨h.be, h.bp, h.bl.congr (rowOf_congr fun j hj => by show Value.int .i64 _ = Value.int .i64 _; rw [e j hj]), h.bel, h.lo⟩
theorem Fr.start (W0 : World) (rn vn : Nat) : Fr W0 W0.heap.size rn vn (fun _ => 0) (fun _ => 0) (fun _ => 0) (((W0.alloc (.cells (rowOf (fun _ => .int .i64 0) (rn + vn)) 3)).alloc (.cells (rowOf (fun _ => .int .i64 0) (rn + vn)) 3)).alloc (.cells (rowOf (fun _ => .int .i64 0) vn) 3)) := by
  have b1 := Blk.new W0 (rowOf (fun _ => .int .i64 0) (rn + vn)) 3
  have b2 := Blk.new (W0.alloc (.cells (rowOf (fun _ => .int .i64 0) (rn + vn)) 3)) (rowOf (fun _ => .int .i64 0) (rn + vn)) 3
  have b3 := Blk.new ((W0.alloc (.cells (rowOf (fun _ => .int .i64 0) (rn + vn)) 3)).alloc (.cells (rowOf (fun _ => .int .i64 0) (rn + vn)) 3)) (rowOf (fun _ => .int .i64 0) vn) 3
  simp only [World.size_alloc] at b2 b3
  exact ⟨((b1.alloc _).alloc _).congr rfl, (b2.alloc _).congr rfl, b3.congr rfl, below_alloc (below_alloc (below_alloc (Below.refl _ _) _) _) _, Nat.le_refl _⟩
end
/-- vn rows of -1 -/
def lam (k : Nat) : Nat → Int := fun j => if j < k then -1 else 0
theorem lam_step (k : Nat) : upd (lam k) k (-1) = lam (k + 1) := by
  funext j
  unfold lam
  by_cases e : j = k
  · subst e; rw [upd_same, if_pos (by omega)]
  · rw [upd_ne _ _ e]
    by_cases e2 : j < k
    · rw [if_pos e2, if_pos (by omega)]
    · rw [if_neg e2, if_neg (by omega)]

/-- the last of a version is a read, or none -/
theorem la_read (rn vn : Nat) (id : Nat → Nat) (hid : ∀ r, r < rn → id r < vn) {r v : Nat} (hr : r ≤ rn) (hv : v < vn) (h0 : 0 ≤ (er rn id r).la v) : ∃ l : Nat, (er rn id r).la v = (l : Int) ∧ l < r := by
  obtain ⟨l, e, hl, _⟩ := (rel_all rn vn id hid r hr).yes v hv h0
  exact ⟨l, e, hl⟩
theorem la_all (rn vn : Nat) (id : Nat → Nat) (hid : ∀ r, r < rn → id r < vn) (hall : ∀ v, v < vn → ∃ r, r < rn ∧ id r = v) {v : Nat} (hv : v < vn) : ∃ l : Nat, (er rn id rn).la v = (l : Int) ∧ l < rn := by
  obtain ⟨r, hr, e⟩ := hall v hv
  have := (rel_all rn vn id hid rn (Nat.le_refl _)).used r hr
  rw [e] at this
  exact la_read rn vn id hid (Nat.le_refl _) hv this
theorem fr_lt {W0 : World} {Be rn vn : Nat} {la : Nat → Int} {id : Nat → Nat} {r : Nat} {wr : World} (h : Fr W0 Be rn vn (upd (er rn id r).en (rn + id r) (r : Int)) (upd (er rn id r).ep r ((rn + id r : Nat) : Int)) (upd (er rn id r).la (id r) (r : Int)) wr) (h0 : (er rn id r).la (id r) < 0) :
    Fr W0 Be rn vn (er rn id (r + 1)).en (er rn id (r + 1)).ep (er rn id (r + 1)).la wr := by
  have e : er rn id (r + 1) = ⟨upd (er rn id r).en (rn + id r) (r : Int), upd (er rn id r).ep r ((rn + id r : Nat) : Int), upd (er rn id r).la (id r) (r : Int)⟩ := by
    show er1 rn id r (er rn id r) = _
    unfold er1
    rw [if_pos h0]
  rw [e]
  exact h
theorem fr_ge {W0 : World} {Be rn vn : Nat} {id : Nat → Nat} {r l : Nat} {wr : World} (h : Fr W0 Be rn vn (upd (er rn id r).en l (r : Int)) (upd (er rn id r).ep r (l : Int)) (upd (er rn id r).la (id r) (r : Int)) wr) (h0 : (er rn id r).la (id r) = (l : Int)) :
    Fr W0 Be rn vn (er rn id (r + 1)).en (er rn id (r + 1)).ep (er rn id (r + 1)).la wr := by
  have e : er rn id (r + 1) = ⟨upd (er rn id r).en l (r : Int), upd (er rn id r).ep r (l : Int), upd (er rn id r).la (id r) (r : Int)⟩ := by
    show er1 rn id r (er rn id r) = _
    unfold er1
    rw [if_neg (by omega), h0]
    simp
  rw [e]
  exact h
theorem fr_ef {W0 : World} {Be rn vn v l : Nat} {la : Nat → Int} {s : (Nat → Int) × (Nat → Int)} {wr : World} (h : Fr W0 Be rn vn (upd (ef rn la v s).1 l ((rn + v : Nat) : Int)) (upd (ef rn la v s).2 (rn + v) (l : Int)) la wr) (h0 : la v = (l : Int)) :
    Fr W0 Be rn vn (ef rn la (v + 1) s).1 (ef rn la (v + 1) s).2 la wr := by
  have e : ef rn la (v + 1) s = (upd (ef rn la v s).1 l ((rn + v : Nat) : Int), upd (ef rn la v s).2 (rn + v) (l : Int)) := by
    show (_, _) = _
    rw [h0]; simp
  rw [e]
  exact h
end Go.Proofs.Qxb6602948a

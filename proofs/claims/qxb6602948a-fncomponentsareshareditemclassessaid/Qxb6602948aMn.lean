import Derived.Test.Qxb6602948aMh
namespace Go.Proofs.Qxb6602948a
open Go.RowKit Go.Kx Go.Uf Go.Maps
set_option linter.unusedVariables false

/-- the classes found before place i -/
def resUp (κ : Nat → Nat) (lo n i : Nat) : Grp := (firsts κ lo i).map fun t => (0, clsJ κ lo (κ t) (n - lo))
theorem resUp_old {κ : Nat → Nat} {lo n i : Nat} (h : old κ lo (lo + i) (lo + i)) : resUp κ lo n (i + 1) = resUp κ lo n i := by unfold resUp; rw [firsts_old h]
theorem resUp_new {κ : Nat → Nat} {lo n i : Nat} (h : ¬ old κ lo (lo + i) (lo + i)) : resUp κ lo n (i + 1) = resUp κ lo n i ++ [(0, clsJ κ lo (κ (lo + i)) (n - lo))] := by unfold resUp; rw [firsts_new h, List.map_append]; rfl
theorem firsts_len (κ : Nat → Nat) (lo : Nat) : ∀ i, (firsts κ lo i).length ≤ i
  | 0 => by simp [firsts]
  | i + 1 => by
    have := firsts_len κ lo i
    by_cases h : old κ lo (lo + i) (lo + i)
    · rw [firsts_old h]; omega
    · rw [firsts_new h, List.length_append]; simp; omega
theorem resUp_len (κ : Nat → Nat) (lo n i : Nat) : (resUp κ lo n i).length ≤ i := by unfold resUp; rw [List.length_map]; exact firsts_len κ lo i
theorem resUp_comps (rS rI wS wI : Nat → Int) (lo n : Nat) : (resUp (kap rS rI wS wI lo n) lo n (n - lo)).map (·.2) = comps rS rI wS wI lo n := by
  rw [comps_eq]; unfold resUp; rw [List.map_map]; rfl

/-- the model's memory -/
structure Mn (wA wr : World) (n items : Nat) (cp : Nat → Int) (sn : Nat → Bool) (rv : Value) (R : Grp) (us : Nat → Value) : Prop where
  c : Blk wr wA.heap.size (rowOf (ints .i64 cp) n) 3
  s : Blk wr (wA.heap.size + 1) (rowOf (bls sn) items) 4
  gp : Gp wr (wA.heap.size + 2) rv R us
  bel : Below wA.heap.size wA wr
  sz : wA.heap.size + 2 ≤ wr.heap.size
  emp : R = [] → rv = .slice none 0 0

theorem Mn.start {wA wb : World} {n items : Nat} (us : Nat → Value) (hc : Blk wb wA.heap.size (rowOf (ints .i64 (fun _ => -1)) n) 3) (hs : wb.heap.size = wA.heap.size + 1) (hb : Below wA.heap.size wA wb) :
    Mn wA (wb.alloc (.cells (rowOf (fun _ => .bool false) items) 4)) n items (fun _ => -1) (fun _ => false) (.slice none 0 0) [] us := by
  refine ⟨hc.alloc _, ?_, Gp.start _ _ _, below_alloc hb _, by simp; omega, fun _ => rfl⟩
  have := Blk.new wb (rowOf (fun _ => .bool false) items) 4
  rw [hs] at this
  exact this

theorem Bz.start {wA w1 : World} {lo n items t : Nat} {ux : Nat → List Nat} {κ : Nat → Nat} {cp : Nat → Int} {sn : Nat → Bool} {rv : Value} {R : Grp} {us : Nat → Value} (h : Mn wA w1 n items cp sn rv R us) (ho : OI lo n ux κ t cp sn) (ht : lo ≤ t) (htn : t < n) (hneg : cp t < 0) :
    Bz lo n items ux κ t wA.heap.size ((w1.setCell ⟨wA.heap.size, t, none⟩ (.int .i64 (R.length : Nat))).alloc (.cells #[.int .i64 (t : Nat)] 3)) (.slice (some ⟨w1.heap.size, 0, none⟩) 1 1)
      ((w1.setCell ⟨wA.heap.size, t, none⟩ (.int .i64 (R.length : Nat))).alloc (.cells #[.int .i64 (t : Nat)] 3)) (some ⟨w1.heap.size, 0, none⟩) 1 (upd cp t (R.length : Nat)) sn [t] 0 := by
  have hsz := h.sz
  refine ⟨⟨?_, ?_, ?_, by omega, by omega⟩, ho.begin ht htn hneg R.length, fun i hi => by omega, Sp.refl _ _ _ _⟩
  · refine ((h.c.set t (.int .i64 (R.length : Nat))).alloc _).congr ?_
    rw [rowOf_set]; apply rowOf_congr; intro j _; by_cases e : j = t <;> simp [upd, e]
  · exact (h.s.other _ _ (by simp)).alloc _
  · have := World.ownsRow_lit (base := wA.heap.size + 2) (e := 3) (size := 1) (w1.setCell ⟨wA.heap.size, t, none⟩ (.int .i64 (R.length : Nat))) #[.int .i64 (t : Nat)] 1 (by simp; omega) (by unfold maxLen; omega) (by simp)
    rw [World.size_setCell] at this
    exact this

theorem start_below {wA w1 : World} {n items t : Nat} {cp : Nat → Int} {sn : Nat → Bool} {rv : Value} {R : Grp} {us : Nat → Value} (h : Mn wA w1 n items cp sn rv R us) (u : Value) (o : Obj) :
    Below wA.heap.size wA ((w1.setCell ⟨wA.heap.size, t, none⟩ u).alloc o) ∧ ((w1.setCell ⟨wA.heap.size, t, none⟩ u).alloc o).heap.size = w1.heap.size + 1 :=
  ⟨below_alloc (h.bel.setCell (Nat.le_refl _) _) _, by simp⟩

/-- behind the search and the sorting -/
theorem Mn.after {wA w1 w2 ws : World} {lo n items t gm c' I : Nat} {ux : Nat → List Nat} {κ : Nat → Nat} {cp cp' : Nat → Int} {sn sn' : Nat → Bool} {rv u : Value} {R : Grp} {us : Nat → Value} {ms : List Nat} {o : Obj} (h : Mn wA w1 n items cp sn rv R us)
    (z : Bz lo n items ux κ t wA.heap.size ((w1.setCell ⟨wA.heap.size, t, none⟩ u).alloc o) (.slice (some ⟨w1.heap.size, 0, none⟩) 1 1) w2 (some ⟨gm, 0, none⟩) c' cp' sn' ms I) (hT : Turned gm w2 ws) :
    Mn wA ws n items cp' sn' rv R us ∧ ∀ j, j < R.length → ∀ b, (us j).ownBlock = some b → gm ≠ b := by
  have hsz := h.sz
  have hgm : w1.heap.size ≤ gm := by
    rcases z.sp.loc with e | e
    · simp [Value.ownBlock] at e; omega
    · have := e gm rfl; simp at this; omega
  have h2 := z.sp.bel.size
  have hsame : ∀ b, wA.heap.size + 2 ≤ b → b < w1.heap.size → ws.heap[b]? = w1.heap[b]? := fun b hb hlt => by
    rw [hT.block b (by omega), z.sp.keep b (by omega) (by simp; omega) (by simp [Value.ownBlock]; omega), Below.heap_alloc _ _ _ (by simp; omega)]
    exact heap_setCell_other w1 _ b u (by simp; omega)
  refine ⟨⟨hT.keep z.bf.c (by omega), hT.keep z.bf.s (by omega), h.gp.same hsame, ((below_alloc (h.bel.setCell (Nat.le_refl _) _) _).trans z.sp.bel).trans (hT.below (by omega)), ?_, h.emp⟩, fun j hj b hb => ?_⟩
  · rw [hT.size]; simp at h2; omega
  · have := ((h.gp.inner j hj).lt b hb).2; omega

/-- one more -/
theorem Mn.push {wA ws w8 : World} {n items gm cm : Nat} {cp : Nat → Int} {sn : Nat → Bool} {rv v8 : Value} {R : Grp} {us : Nat → Value} {l : List Nat} {o : Obj} (h : Mn wA ws n items cp sn rv R us)
    (ho : w8.ownsRow (wA.heap.size + 2) 22 1 v8 (R.length + 1) ((List.range R.length).map us ++ [.slice (some ⟨gm, 0, none⟩) l.length cm])) (hg : (ws.alloc o).grownBy w8 rv.ownBlock)
    (hm : ws.ownsRow (wA.heap.size + 2) 3 1 (.slice (some ⟨gm, 0, none⟩) l.length cm) l.length (l.map natv)) (hap : ∀ j, j < R.length → ∀ b, (us j).ownBlock = some b → gm ≠ b) :
    Mn wA w8 n items cp sn v8 (R ++ [(0, l)]) (upd us R.length (.slice (some ⟨gm, 0, none⟩) l.length cm)) := by
  have hsz := h.sz
  have hb : ∀ q, rv.ownBlock = some q → wA.heap.size + 2 ≤ q := fun q hq => (h.gp.outer.lt q hq).1
  refine ⟨?_, ?_, h.gp.snocR (below_alloc (Below.refl _ _) _) ho hg hm (fun j hj b e e2 => hap j hj b e (by simpa [Value.ownBlock] using e2)), (below_alloc h.bel _).grown hg (by simp; omega) (fun q hq => by have := hb q hq; omega), ?_, fun e => by simp at e⟩
  · exact (hg.block _ (by simp; omega) (fun e => by have := hb _ e.symm; omega)).trans (h.c.alloc o)
  · exact (hg.block _ (by simp; omega) (fun e => by have := hb _ e.symm; omega)).trans (h.s.alloc o)
  · have := hg.size; simp at this; omega

theorem ms_row {w : World} {base gm c : Nat} {ms : List Nat} (h : w.ownsRow base 3 1 (.slice (some ⟨gm, 0, none⟩) ms.length c) ms.length (ms.map natv)) : MRow w base gm ms.length c (fun i => ms.getD i 0) := by
  have e : ms.map natv = (List.range ms.length).map (nats fun i => ms.getD i 0) := by
    apply List.ext_getElem?
    intro i
    by_cases hi : i < ms.length <;> simp [List.getD, hi]
  unfold MRow
  rw [← e]
  exact h

theorem done_next {rS rI wS wI : Nat → Int} {lo n items m rlo nr wlo nw I : Nat} {sn : Nat → Bool} {ms : List Nat} {ux : Nat → List Nat} (hux : ∀ x, m ∈ ux x → tf rS rI wS wI m x) (re1 : rS m = (rlo : Int)) (re2 : rS (m + 1) = ((rlo + nr : Nat) : Int)) (we1 : wS m = (wlo : Int)) (we2 : wS (m + 1) = ((wlo + nw : Nat) : Int))
    (hd : Done ux sn ms I) (hm : ms.getD I 0 = m) (h1 : ∀ i, i < nr → sn (rI (rlo + i)).toNat = true) (h2 : ∀ i, i < nw → sn (wI (wlo + i)).toNat = true) : Done ux sn ms (I + 1) := fun i hi x hx => by
  by_cases e : i = I
  · subst e
    rw [hm] at hx
    rcases (tf_eq re1 re2 we1 we2 x).1 (hux x hx) with ⟨k, hk, rfl⟩ | ⟨k, hk, rfl⟩
    · exact h1 k hk
    · exact h2 k hk
  · exact hd i (by omega) x hx
end Go.Proofs.Qxb6602948a

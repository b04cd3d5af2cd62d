import Derived.Test.Qxb6602948aNm
/- WHAT THE ROWS OF A NEW SEARCH HOLD -/
namespace Go.Proofs.Qxb6602948a
open Go.RowKit Go.Kx Go.Maps
set_option linter.unusedVariables false

/-- each once, in the order of their coming -/
def srcN (g : Nat → Int) : Nat → List Int
  | 0 => []
  | k + 1 => if (srcN g k).contains (g k) = true then srcN g k else srcN g k ++ [g k]
theorem srcN_old {g : Nat → Int} {k : Nat} (h : g k ∈ srcN g k) : srcN g (k + 1) = srcN g k := by show (if _ then _ else _) = _; rw [if_pos (by simpa using h)]
theorem srcN_new {g : Nat → Int} {k : Nat} (h : g k ∉ srcN g k) : srcN g (k + 1) = srcN g k ++ [g k] := by show (if _ then _ else _) = _; rw [if_neg (by simpa using h)]
theorem srcN_len (g : Nat → Int) : ∀ k, (srcN g k).length ≤ k
  | 0 => Nat.le_refl _
  | k + 1 => by
    have := srcN_len g k
    by_cases h : g k ∈ srcN g k
    · rw [srcN_old h]; omega
    · rw [srcN_new h, List.length_append]; simp; omega
/-- the transaction of each read -/
def rdl (rS : Nat → Int) : Nat → List Int
  | 0 => []
  | t + 1 => rdl rS t ++ List.replicate (rS (t + 1) - rS t).toNat (t : Int)

structure Lsp (n : Nat) (rS rw : Nat → Int) (p : Nat → Int × Int) (t k r : Nat) (ls : Nat → List Int) : Prop where
  src : ∀ j, j < t → j < n → ls j = srcN (fun i => rw ((rS j).toNat + i)) (rS (j + 1) - rS j).toNat
  cur : t < n → ls t = srcN (fun i => rw ((rS t).toNat + i)) k
  rest : ∀ j, t < j → j < n → ls j = []
  rd : ls n = rdl rS t ++ List.replicate k (t : Int)
  wr : ls (n + 1) = (fo p r).map (fun j => (p j).2)
  ver : ls (n + 2) = (List.range r).map (fun j => (idv p j : Int))
  wts : ∀ j, j < n → ls (n + 3 + j) = []

section
variable {n : Nat} {rS rw : Nat → Int} {p : Nat → Int × Int} {t k r : Nat} {ls : Nat → List Int}
theorem Lsp.start (n : Nat) (rS rw : Nat → Int) (p : Nat → Int × Int) : Lsp n rS rw p 0 0 0 (fun _ => []) :=
  ⟨fun j hj => by omega, fun _ => rfl, fun _ _ _ => rfl, rfl, rfl, rfl, fun _ _ => rfl⟩
/-- the transaction's reads are through -/
theorem Lsp.next (h : Lsp n rS rw p t k r ls) (ht : t < n) (hk : k = (rS (t + 1) - rS t).toNat) : Lsp n rS rw p (t + 1) 0 r ls := by
  subst hk
  refine ⟨fun j hj hn => ?_, fun h1 => h.rest (t + 1) (by omega) h1, fun j h1 h2 => h.rest j (by omega) h2, by rw [h.rd]; simp [rdl], h.wr, h.ver, h.wts⟩
  by_cases e : j = t
  · subst e; exact h.cur hn
  · exact h.src j (by omega) hn

/-- one read more: the three rows -/
def step3 (n : Nat) (p : Nat → Int × Int) (t r : Nat) (ls : Nat → List Int) : Nat → List Int := fun j => if j = n then ls n ++ [(t : Int)] else if j = n + 2 then ls (n + 2) ++ [(idv p r : Int)] else ls j
end

theorem rdl_len {n items M N : Nat} {rS rI wS wI : Nat → Int} (hf : Fine n items M N rS rI wS wI) : ∀ t, t ≤ n → ((rdl rS t).length : Int) = rS t - rS 0
  | 0, _ => by simp [rdl]
  | t + 1, h => by
    have ih := rdl_len hf t (by omega)
    have := hf.rs.mono t (by omega)
    simp only [rdl, List.length_append, List.length_replicate]
    omega
theorem Lsp.lens {n items M N : Nat} {rS rI rw wS wI : Nat → Int} {p : Nat → Int × Int} {t k r q0 : Nat} {ls : Nat → List Int} (h : Lsp n rS rw p t k (r + k) ls) (hf : Fine n items M N rS rI wS wI) (ht : t ≤ n) (hq : rS 0 = (q0 : Int)) (hr : rS t = ((q0 + r : Nat) : Int)) :
    (ls n).length = r + k ∧ (ls (n + 1)).length ≤ r + k ∧ (ls (n + 2)).length = r + k := by
  have h1 := rdl_len hf t ht
  refine ⟨?_, ?_, ?_⟩
  · rw [h.rd]; simp; omega
  · rw [h.wr, List.length_map]; exact fo_len p _
  · rw [h.ver]; simp

/-- the map of the versions -/
def Omap (wr : World) (Bm k : Nat) (D : DataW Unit) : Prop := wr.ownsMap Try.prog 59 (plainElem Try.prog 3) Bm k D
theorem Omap.made (w : World) : Omap (w.alloc (.map #[] 0)) w.heap.size 0 (.map []) := World.ownsMap_made _ _ _ _
theorem Omap.same {w w' : World} {Bm k : Nat} {D : DataW Unit} (h : Omap w Bm k D) (hb : w'.heap[Bm]? = w.heap[Bm]?) : Omap w' Bm k D := ownsMap_same h hb

/-- the rows of a search, k reads of t behind -/
structure N1 (w wr : World) (H n items S p s t f q d Bm : Nat) (us : Nat → Value) (ls : Nat → List Int) (frd : Nat → Int) (D : DataW Unit) (rS rw : Nat → Int) (pr : Nat → Int × Int) (tt k r : Nat) : Prop where
  ns : Nst w wr H n items S p s t f q d Bm us us ls frd (.slice none 0 0) (.slice none 0 0)
  om : Omap wr Bm r D
  mv : Mv D pr r
  lsp : Lsp n rS rw pr tt k r ls

theorem N1.later {w wr w' : World} {H n items S p s t f q d Bm : Nat} {us : Nat → Value} {ls : Nat → List Int} {frd : Nat → Int} {D : DataW Unit} {rS rw : Nat → Int} {pr : Nat → Int × Int} {tt k r : Nat} (h : N1 w wr H n items S p s t f q d Bm us ls frd D rS rw pr tt k r) (hb : Below wr.heap.size wr w') (hB : w.heap.size ≤ Bm) :
    N1 w w' H n items S p s t f q d Bm us ls frd D rS rw pr tt k r :=
  ⟨h.ns.same (fun b _ hlt => hb.block b hlt) ⟨hb.os, hb.tape, hb.output⟩ hb.size hB, h.om.same (hb.block Bm (by have := h.ns.sz; omega)), h.mv, h.lsp⟩

theorem own_heap {w w' : World} {base : Nat} {e : TypeId} {size : Nat} {v : Value} {m : Nat} {xs : List Value} (h : w.ownsRow base e size v m xs) (hh : w'.heap = w.heap) : w'.ownsRow base e size v m xs :=
  ownsRow_same h fun b _ _ => by rw [hh]

/-- behind 'if !ok' -/
def AfterIf (w : World) (H n items S bp bs bt bf bq bd Bm : Nat) (us : Nat → Value) (ls : Nat → List Int) (fr2 : Nat → Int) (p : Nat → Int × Int) (rk b9 : Nat) (xx yy : Int) (v10 : Value) (wx : World) : Prop :=
  ∃ (us' : Nat → Value) (D' : DataW Unit), v10 = .int .i64 (idv p rk : Nat) ∧ us' (n + 2) = us (n + 2) ∧ (∀ j, j < 2 * n + 3 → (us' j).ownBlock ≠ some b9) ∧ Blk wx b9 #[.int .i32 xx, .int .i32 yy] 59 ∧ Nst w wx H n items S bp bs bt bf bq bd Bm us' us' (upd ls (n + 1) ((fo p (rk + 1)).map (fun j => (p j).2))) fr2 (.slice none 0 0) (.slice none 0 0) ∧ Omap wx Bm (rk + 1) D' ∧ Mv D' p (rk + 1)

section
variable {w w7 w8 : World} {H n items S bp bs bt bf bq bd Bm : Nat} {us : Nat → Value} {ls : Nat → List Int} {fr2 rS rw : Nat → Int} {p : Nat → Int × Int} {t k rk b9 : Nat} {xx yy : Int} {D : DataW Unit}
theorem afterOld (hN : Nst w w7 H n items S bp bs bt bf bq bd Bm us us ls fr2 (.slice none 0 0) (.slice none 0 0)) (hF : ∀ j, j < 2 * n + 3 → (us j).ownBlock ≠ some b9) (hB : Blk w7 b9 #[.int .i32 xx, .int .i32 yy] 59) (hO : Omap w7 Bm rk D) (hM : Mv D p rk) (hL : Lsp n rS rw p t k rk ls) (ho : ∃ j, j < rk ∧ p j = p rk) :
    AfterIf w H n items S bp bs bt bf bq bd Bm us ls fr2 p rk b9 xx yy (.int .i64 (idv p rk : Nat)) w7 := by
  refine ⟨us, D, rfl, rfl, hF, hB, ?_, World.ownsMap.mono hO (by omega), hM.skip ho⟩
  have e : upd ls (n + 1) ((fo p (rk + 1)).map (fun j => (p j).2)) = ls := by
    funext j
    by_cases q : j = n + 1
    · subst q; rw [upd_same, fo_old p ho, hL.wr]
    · rw [upd_ne _ _ q]
  rw [e]; exact hN
theorem afterNew {aw : Option Addr} {lw cw g cap : Nat} {KL : Lit} (hN8 : Nst w w8 H n items S bp bs bt bf bq bd Bm us (upd us (n + 1) (.slice (some ⟨g, 0, none⟩) (lw + 1) cap)) (upd ls (n + 1) (ls (n + 1) ++ [yy])) fr2 (.slice none 0 0) (.slice none 0 0))
    (hF : ∀ j, j < 2 * n + 3 → (us j).ownBlock ≠ some b9) (hB : Blk w7 b9 #[.int .i32 xx, .int .i32 yy] 59) (hO : Omap w7 Bm (rk + 1) (D.put KL (.lit (.int .i64 ((lw : Nat) : Int))))) (hM : Mv D p rk) (hL : Lsp n rS rw p t k rk ls) (ho : ¬ ∃ j, j < rk ∧ p j = p rk) (hw : ∀ j, wfp (p j))
    (hu : us (n + 1) = .slice aw lw cw) (hlw : lw = (fo p rk).length) (hp : p rk = (xx, yy)) (hk : KL = kl (xx, yy)) (hb9 : Bm < b9) (l7 : b9 < w7.heap.size) (hat : (Value.slice aw lw cw).ownBlock = some g ∨ g = w7.heap.size + 1)
    (hkeep : ∀ b, b < w7.heap.size → (Value.slice aw lw cw).ownBlock ≠ some b → w8.heap[b]? = w7.heap[b]?) (hrow : ∀ b, (Value.slice aw lw cw).ownBlock = some b → Bm + 1 ≤ b) :
    AfterIf w H n items S bp bs bt bf bq bd Bm us ls fr2 p rk b9 xx yy (.int .i64 (lw : Nat)) (w8.setCell ⟨S, 9, none⟩ (.slice (some ⟨g, 0, none⟩) (lw + 1) cap)) := by
  have lS := hN8.dis.lS
  have hn1 : (Value.slice aw lw cw).ownBlock ≠ some b9 := by have := hF (n + 1) (by omega); rw [hu] at this; exact this
  have hgb : g ≠ b9 := by
    intro e
    rcases hat with e2 | e2
    · exact hn1 (by rw [e2, e])
    · omega
  refine ⟨upd us (n + 1) (.slice (some ⟨g, 0, none⟩) (lw + 1) cap), D.put KL (.lit (.int .i64 ((lw : Nat) : Int))), ?_, upd_ne _ _ (by omega), ?_, ?_, ?_, ?_, ?_⟩
  · rw [idv_new p ho, ← hlw]
  · intro j hj
    by_cases e : j = n + 1
    · subst e; rw [upd_same]; simp [Value.ownBlock]; exact hgb
    · rw [upd_ne _ _ e]; exact hF j hj
  · exact (heap_setCell_other w8 _ b9 _ (by simp; omega)).trans ((hkeep b9 l7 hn1).trans hB)
  · have e : (fo p (rk + 1)).map (fun j => (p j).2) = ls (n + 1) ++ [yy] := by rw [fo_new p ho, List.map_append, hL.wr]; simp [hp]
    rw [e]
    exact hN8.setW
  · refine hO.same ((heap_setCell_other w8 _ Bm _ (by simp; omega)).trans (hkeep Bm (by omega) (fun e => ?_)))
    have := hrow Bm e
    omega
  · have h := hM.put (fun j _ => hw j) ho
    rw [hp, ← hk, ← hlw] at h
    exact h
end

/-- the search, the map, and the version in hand (block b9) -/
structure Pst (w wr : World) (H n items S p s t f q d Bm : Nat) (us uf : Nat → Value) (ls : Nat → List Int) (frd : Nat → Int) (b9 : Nat) (xx yy : Int) (rk : Nat) (D : DataW Unit) : Prop where
  ns : Nst w wr H n items S p s t f q d Bm us uf ls frd (.slice none 0 0) (.slice none 0 0)
  fb : ∀ j, j < 2 * n + 3 → (uf j).ownBlock ≠ some b9
  b : Blk wr b9 #[.int .i32 xx, .int .i32 yy] 59
  om : Omap wr Bm rk D
  gt : Bm < b9

section
variable {w wr w' : World} {H n items S p s t f q d Bm : Nat} {us uf : Nat → Value} {ls : Nat → List Int} {frd : Nat → Int} {b9 rk : Nat} {xx yy : Int} {D : DataW Unit}
theorem Pst.drewN (h : Pst w wr H n items S p s t f q d Bm us uf ls frd b9 xx yy rk D) (m : Nat) : Pst w (wr.drewN m) H n items S p s t f q d Bm us uf ls frd b9 xx yy rk D :=
  ⟨⟨h.ns.bS, h.ns.bp, h.ns.bs, h.ns.bt, h.ns.bf, h.ns.bq, h.ns.bd, ⟨h.ns.fam.row, h.ns.fam.apart, h.ns.fam.emp⟩, below_drewN h.ns.bel _, h.ns.sz, h.ns.dis⟩, h.fb, h.b, h.om, h.gt⟩
theorem Pst.grow (h : Pst w wr H n items S p s t f q d Bm us us ls frd b9 xx yy rk D) {j l : Nat} {o : Obj} {v u' : Value} {z : Int} (hj : j < 2 * n + 3) (hv : us j = v) (hl : (ls j).length = l)
    (ho : w'.ownsRow (Bm + 1) 3 1 u' (l + 1) ((ls j).map (Value.int .i64) ++ [.int .i64 z])) (hg : (wr.alloc o).grownBy w' v.ownBlock) (hloc : u'.ownBlock = v.ownBlock ∨ u'.ownBlock = some (wr.heap.size + 1)) :
    Pst w w' H n items S p s t f q d Bm us (upd us j u') (upd ls j (ls j ++ [z])) frd b9 xx yy rk D := by
  subst hv
  subst hl
  have hsz := h.ns.sz
  have hlt := h.b.lt
  have hn1 := h.fb j hj
  refine ⟨h.ns.grow hj ho hg (by rw [World.size_alloc]; exact hloc), fun i hi => ?_, ?_, ?_, h.gt⟩
  · by_cases e : i = j
    · subst e
      rw [upd_same]
      rcases hloc with e2 | e2
      · rw [e2]; exact hn1
      · rw [e2]; simp; omega
    · rw [upd_ne _ _ e]; exact h.fb i hi
  · exact (hg.block b9 (by simp; omega) (fun e => hn1 e.symm)).trans (h.b.alloc _)
  · refine h.om.same ((hg.block Bm (by simp; omega) (fun e => ?_)).trans (Below.heap_alloc _ _ _ (by omega)))
    have := ((h.ns.fam.row j hj).lt Bm e.symm).1
    omega
theorem Pst.st {us' : Nat → Value} (h : Pst w wr H n items S p s t f q d Bm us uf ls frd b9 xx yy rk D) {c k : Nat} {v : Value} (hc : c < Bm) (hn : Nst w (wr.setCell ⟨c, k, none⟩ v) H n items S p s t f q d Bm us' uf ls frd (.slice none 0 0) (.slice none 0 0)) : Pst w (wr.setCell ⟨c, k, none⟩ v) H n items S p s t f q d Bm us' uf ls frd b9 xx yy rk D :=
  ⟨hn, h.fb, h.b.other _ _ (by have := h.gt; simp; omega), h.om.same (heap_setCell_other wr _ Bm _ (by simp; omega)), h.gt⟩
theorem Pst.setR {u' : Value} (h : Pst w wr H n items S p s t f q d Bm us (upd us n u') ls frd b9 xx yy rk D) : Pst w (wr.setCell ⟨S, 5, none⟩ u') H n items S p s t f q d Bm (upd us n u') (upd us n u') ls frd b9 xx yy rk D := h.st h.ns.dis.lS.2 h.ns.setR
theorem Pst.setV {u' : Value} (h : Pst w wr H n items S p s t f q d Bm us (upd us (n + 2) u') ls frd b9 xx yy rk D) : Pst w wr H n items S p s t f q d Bm (upd us (n + 2) u') (upd us (n + 2) u') ls frd b9 xx yy rk D := ⟨h.ns.setV, h.fb, h.b, h.om, h.gt⟩
theorem Pst.setS {k : Nat} {u' : Value} (hk : k < n) (h : Pst w wr H n items S p s t f q d Bm us (upd us k u') ls frd b9 xx yy rk D) : Pst w (wr.setCell ⟨s, k, none⟩ u') H n items S p s t f q d Bm (upd us k u') (upd us k u') ls frd b9 xx yy rk D := h.st h.ns.dis.ls.2 (h.ns.setS hk)
end

/-- one read more -/
theorem Lsp.read {n : Nat} {rS rw : Nat → Int} {p : Nat → Int × Int} {t k r : Nat} {ls : Nat → List Int} {yy : Int} (h : Lsp n rS rw p t k r ls) (ht : t < n) (hy : rw ((rS t).toNat + k) = yy) (L3 : Nat → List Int)
    (e0 : L3 n = ls n ++ [(t : Int)]) (e1 : L3 (n + 1) = (fo p (r + 1)).map (fun j => (p j).2)) (e2 : L3 (n + 2) = ls (n + 2) ++ [(idv p r : Int)])
    (e3 : (yy ∈ ls t → L3 t = ls t) ∧ (yy ∉ ls t → L3 t = ls t ++ [yy])) (e4 : ∀ j, j ≠ n → j ≠ n + 1 → j ≠ n + 2 → j ≠ t → L3 j = ls j) : Lsp n rS rw p t (k + 1) (r + 1) L3 := by
  refine ⟨fun j hj hn => ?_, fun _ => ?_, fun j h1 h2 => ?_, ?_, e1, ?_, fun j hj => ?_⟩
  · rw [e4 j (by omega) (by omega) (by omega) (by omega)]; exact h.src j hj hn
  · have hc := h.cur ht
    by_cases q : yy ∈ ls t
    · rw [e3.1 q, hc]
      rw [hc] at q
      exact (srcN_old (g := fun i => rw ((rS t).toNat + i)) (by rw [hy]; exact q)).symm
    · rw [e3.2 q, hc]
      rw [hc] at q
      have h9 := srcN_new (g := fun i => rw ((rS t).toNat + i)) (k := k) (by rw [hy]; exact q)
      rw [h9, hy]
  · rw [e4 j (by omega) (by omega) (by omega) (by omega)]; exact h.rest j h1 h2
  · rw [e0, h.rd, List.append_assoc, ← List.replicate_succ']
  · rw [e2, h.ver, List.range_succ, List.map_append]; rfl
  · rw [e4 _ (by omega) (by omega) (by omega) (by omega)]; exact h.wts j hj

theorem Lsp.step {n : Nat} {rS rw : Nat → Int} {p : Nat → Int × Int} {t k r : Nat} {ls ls1 ls2 ls3 : Nat → List Int} {yy : Int} (h : Lsp n rS rw p t k r ls) (ht : t < n) (hy : rw ((rS t).toNat + k) = yy)
    (h1 : ls1 = upd ls (n + 1) ((fo p (r + 1)).map (fun j => (p j).2))) (h2 : ls2 = upd ls1 n (ls1 n ++ [((t : Nat) : Int)])) (h3 : ls3 = upd ls2 (n + 2) (ls2 (n + 2) ++ [((idv p r : Nat) : Int)])) :
    (yy ∈ ls t → Lsp n rS rw p t (k + 1) (r + 1) ls3) ∧ (yy ∉ ls t → Lsp n rS rw p t (k + 1) (r + 1) (upd ls3 t (ls3 t ++ [yy]))) := by
  have f1 : ∀ j, j ≠ n + 1 → ls1 j = ls j := fun j hj => by rw [h1, upd_ne _ _ hj]
  have f2 : ∀ j, j ≠ n → ls2 j = ls1 j := fun j hj => by rw [h2, upd_ne _ _ hj]
  have f3 : ∀ j, j ≠ n + 2 → ls3 j = ls2 j := fun j hj => by rw [h3, upd_ne _ _ hj]
  have g0 : ls3 n = ls n ++ [(t : Int)] := by rw [f3 n (by omega), h2, upd_same, f1 n (by omega)]
  have g1 : ls3 (n + 1) = (fo p (r + 1)).map (fun j => (p j).2) := by rw [f3 _ (by omega), f2 _ (by omega), h1, upd_same]
  have g2 : ls3 (n + 2) = ls (n + 2) ++ [(idv p r : Int)] := by rw [h3, upd_same, f2 _ (by omega), f1 _ (by omega)]
  have gt : ls3 t = ls t := by rw [f3 _ (by omega), f2 _ (by omega), f1 _ (by omega)]
  have g4 : ∀ j, j ≠ n → j ≠ n + 1 → j ≠ n + 2 → ls3 j = ls j := fun j a b c => by rw [f3 j c, f2 j a, f1 j b]
  refine ⟨fun hin => h.read ht hy ls3 g0 g1 g2 ⟨fun _ => gt, fun hno => absurd hin hno⟩ (fun j a b c _ => g4 j a b c), fun hno => ?_⟩
  refine h.read ht hy _ (by rw [upd_ne _ _ (by omega)]; exact g0) (by rw [upd_ne _ _ (by omega)]; exact g1) (by rw [upd_ne _ _ (by omega)]; exact g2) ⟨fun hin => absurd hin hno, fun _ => by rw [upd_same, gt]⟩ (fun j a b c d => by rw [upd_ne _ _ d]; exact g4 j a b c)
def NoIdx (l : Nat) (L : List Int) (y : Int) : Prop := ¬ ∃ i, i < l ∧ L.getD i 0 = y
theorem rw_drewN {w : World} {a : Option Addr} {n c : Nat} {f : Nat → Value} (h : Rw w a n c f) (m : Nat) : Rw (w.drewN m) a n c f := h
theorem has_quiet (a : Option Addr) (l c : Nat) (f : Nat → Int) (z : Int) (w : World) (m : Nat) (h : Rw w a l c (ints .i64 f)) (hn : l ≤ 1048576) (b : Bool) (hb : b = true ↔ ∃ i, i < l ∧ f i = z) :
    Calls Try.prog 41 #[.slice a l c, .int .i64 z] (w.drewN m) fun e w' => e = .returned (.bool b) ∧ ∃ j, w' = w.drewN j :=
  Calls.quiet_of_same (contains_is a l c f z _ (rw_drewN h m) hn b hb)

theorem has_quiet_no (a : Option Addr) (l c : Nat) (L : List Int) (z : Int) (w : World) (m : Nat) (h : Rw w a l c (ints .i64 (fun i => L.getD i 0))) (hn : l ≤ 1048576) (hno : NoIdx l L z) :
    Calls Try.prog 41 #[.slice a l c, .int .i64 z] (w.drewN m) fun e w' => e = .returned (.bool false) ∧ ∃ j, w' = w.drewN j :=
  has_quiet a l c _ z w m h hn false ⟨fun h => (by cases h), fun h => absurd h hno⟩

theorem Pst.src {w wr : World} {H n items S p s t f q d Bm : Nat} {us uf : Nat → Value} {ls : Nat → List Int} {frd : Nat → Int} {b9 rk : Nat} {xx yy : Int} {D : DataW Unit} (h : Pst w wr H n items S p s t f q d Bm us uf ls frd b9 xx yy rk D) {k : Nat} {v : Value} (hk : k < n) (hv : us k = v) :
    wr.cell? ⟨S, 2, none⟩ = some (.slice (some ⟨s, 0, none⟩) n n) ∧ wr.cell? ⟨b9, 1, none⟩ = some (.int .i32 yy) ∧ wr.cell? ⟨s, k, none⟩ = some v :=
  ⟨h.ns.bS.cell 2, h.b.cell 1, by rw [h.ns.bs.cell k, rowOf_get _ hk, hv]⟩

/-- behind the six makes -/
theorem R2.nst {n items H : Nat} {w0 wc : World} {L : Nat → Bool} {x : Nat → Value} (R : R2 n items H w0 L x wc) (h19 : L 19 = true) :
    ∃ S p s t f q d, x 4 = .pointer (some ⟨S, 0, none⟩) ∧ Nst w0 (wc.alloc (.map #[] 0)) H n items S p s t f q d wc.heap.size (fun _ => .slice none 0 0) (fun _ => .slice none 0 0) (fun _ => []) (fun _ => 0) (.slice none 0 0) (.slice none 0 0) := by
  have h18 := R.c19 h19
  have h17 := R.c18 h18
  obtain ⟨l0, l2, l4, l6, l9, l14, l16⟩ := R.c17 h17
  obtain ⟨S, e42, lS, bS, n26, n28, n30, n33, n38, n40⟩ := R.p18 h18
  obtain ⟨p, e26, l26, b26⟩ := R.m2 l2
  obtain ⟨s, e28, l28, b28⟩ := R.m4 l4
  obtain ⟨t, e30, l30, b30⟩ := R.m6 l6
  obtain ⟨f, e33, l33, b33⟩ := R.m9 l9
  obtain ⟨q, e38, l38, b38⟩ := R.m14 l14
  obtain ⟨d, e40, l40, b40⟩ := R.m16 l16
  have e24 := R.p0 l0
  have q1 := R.q2_4 l2 l4
  have q2 := R.q4_6 l4 l6
  have q3 := R.q4_9 l4 l9
  have q4 := R.q4_14 l4 l14
  have q5 := R.q4_16 l4 l16
  have q6 := R.q2_6 l2 l6
  have q7 := R.q6_9 l6 l9
  have q8 := R.q6_14 l6 l14
  have q9 := R.q6_16 l6 l16
  have q10 := R.q2_9 l2 l9
  have q11 := R.q9_14 l9 l14
  have q12 := R.q9_16 l9 l16
  rw [e26] at n26 q1 q6 q10
  rw [e28] at n28 q1 q2 q3 q4 q5
  rw [e30] at n30 q2 q6 q7 q8 q9
  rw [e33] at n33 q3 q7 q10 q11 q12
  rw [e38] at n38 q4 q8 q11
  rw [e40] at n40 q5 q9 q12
  simp [Value.ownBlock] at n26 n28 n30 n33 n38 n40 q1 q2 q3 q4 q5 q6 q7 q8 q9 q10 q11 q12
  rw [e24, e26, e28, e30, e33, e38, e40] at bS
  refine ⟨S, p, s, t, f, q, d, by rw [R.p19 h19]; exact e42, ⟨bS.alloc _, b26.alloc _, b28.alloc _, b30.alloc _, (b33.alloc _).congr rfl, b38.alloc _, b40.alloc _, Fam.start _ _ _, below_alloc R.bel _, by simp, ?_⟩⟩
  exact ⟨⟨lS, bS.lt⟩, ⟨l26, b26.lt⟩, ⟨l28, b28.lt⟩, ⟨l30, b30.lt⟩, ⟨l33, b33.lt⟩, ⟨l38, b38.lt⟩, ⟨l40, b40.lt⟩, ⟨n26, n28, n30, n33, n38, n40⟩, ⟨q1, fun e => q2 e.symm, fun e => q3 e.symm, fun e => q4 e.symm, fun e => q5 e.symm⟩, ⟨q6, fun e => q7 e.symm, fun e => q8 e.symm, fun e => q9 e.symm⟩, ⟨q10, fun e => q11 e.symm, fun e => q12 e.symm⟩⟩
end Go.Proofs.Qxb6602948a

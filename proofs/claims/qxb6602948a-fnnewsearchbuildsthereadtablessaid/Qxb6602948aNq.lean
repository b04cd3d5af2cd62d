import Derived.Test.Qxb6602948aNl
import Derived.Test.Qxb6602948aFv
/- THE SEARCH IN MEMORY, ITS RINGS LAID -/
namespace Go.Proofs.Qxb6602948a
open Go.RowKit Go.Kx Go.Maps
set_option linter.unusedVariables false

/-- the two rings' rows, apart from the rows of the search -/
def Rngs (wr : World) (Bm m : Nat) (uf : Nat → Value) (K : Nat) (nv pv : Value) (N P : Nat → Nat) : Prop :=
  (K = 0 ∧ nv = .slice none 0 0 ∧ pv = .slice none 0 0) ∨ ∃ bn bp cn cp, nv = .slice (some ⟨bn, 0, none⟩) K cn ∧ pv = .slice (some ⟨bp, 0, none⟩) K cp ∧ Rg wr bn bp K cn cp N P ∧ Bm < bn ∧ Bm < bp ∧ ∀ j, j < m → (uf j).ownBlock ≠ some bn ∧ (uf j).ownBlock ≠ some bp

structure Qst (w wr : World) (H n items S p s t f q d Bm : Nat) (us uf : Nat → Value) (ls : Nat → List Int) (frd : Nat → Int) (D : DataW Unit) (rk K : Nat) (nv pv : Value) (N P : Nat → Nat) : Prop where
  ns : Nst w wr H n items S p s t f q d Bm us uf ls frd nv pv
  om : Omap wr Bm rk D
  rg : Rngs wr Bm (2 * n + 3) uf K nv pv N P

section
variable {w wr w' : World} {H n items S p s t f q d Bm : Nat} {us uf : Nat → Value} {ls : Nat → List Int} {frd : Nat → Int} {rk K : Nat} {D : DataW Unit} {nv pv : Value} {N P : Nat → Nat}

theorem Rngs.keep {m : Nat} (h : Rngs wr Bm m uf K nv pv N P) (hk : ∀ b, Bm < b → b < wr.heap.size → (∀ j, j < m → (uf j).ownBlock ≠ some b) → w'.heap[b]? = wr.heap[b]?) : Rngs w' Bm m uf K nv pv N P := by
  rcases h with h | ⟨bn, bp, cn, cp, e1, e2, hr, l1, l2, hd⟩
  · exact .inl h
  · exact .inr ⟨bn, bp, cn, cp, e1, e2, ⟨(hk bn l1 hr.n.lt (fun j hj => (hd j hj).1)).trans hr.n, (hk bp l2 hr.p.lt (fun j hj => (hd j hj).2)).trans hr.p, hr.ln, hr.lp, hr.ne⟩, l1, l2, hd⟩

theorem Qst.later (h : Qst w wr H n items S p s t f q d Bm us uf ls frd D rk K nv pv N P) (hb : Below wr.heap.size wr w') (hB : w.heap.size ≤ Bm) : Qst w w' H n items S p s t f q d Bm us uf ls frd D rk K nv pv N P :=
  ⟨h.ns.same (fun b _ hlt => hb.block b hlt) ⟨hb.os, hb.tape, hb.output⟩ hb.size hB, h.om.same (hb.block Bm (by have := h.ns.sz; omega)), h.rg.keep fun b _ hlt _ => hb.block b hlt⟩
theorem Qst.drew (h : Qst w wr H n items S p s t f q d Bm us uf ls frd D rk K nv pv N P) : Qst w wr.drew H n items S p s t f q d Bm us uf ls frd D rk K nv pv N P := ⟨h.ns.drew, h.om, h.rg.keep fun _ _ _ _ => rfl⟩

theorem Nst.reset {vn vp : Value} (h : Nst w wr H n items S p s t f q d Bm us us ls frd nv pv) (hS : Blk w' S (scs H n items p s t f q d us vn vp) 67) (hb : But S wr w') : Nst w w' H n items S p s t f q d Bm us us ls frd vn vp := by
  have D := h.dis
  have hsz := h.sz
  have hw := h.bel.size
  refine ⟨hS, (hb.block p D.S'.1 h.bp.lt).trans h.bp, (hb.block s D.S'.2.1 h.bs.lt).trans h.bs, (hb.block t D.S'.2.2.1 h.bt.lt).trans h.bt, (hb.block f D.S'.2.2.2.1 h.bf.lt).trans h.bf, (hb.block q D.S'.2.2.2.2.1 h.bq.lt).trans h.bq, (hb.block d D.S'.2.2.2.2.2 h.bd.lt).trans h.bd, h.fam.same (fun b hB hlt => hb.block b (by have := D.lS; omega) hlt), ?_, Nat.le_trans hsz hb.size, D⟩
  exact h.bel.trans (hb.below D.lS.1 hw)

/-- behind reset -/
theorem Qst.start {vn vp : Value} (h : Nst w wr H n items S p s t f q d Bm us us ls frd nv pv) (ho : Omap wr Bm rk D) (hS : Blk w' S (scs H n items p s t f q d us vn vp) 67) (hb : But S wr w') (h0 : K = 0 → vn = .slice none 0 0 ∧ vp = .slice none 0 0)
    (h1 : 0 < K → ∃ cn cp, vn = .slice (some ⟨wr.heap.size, 0, none⟩) K cn ∧ vp = .slice (some ⟨wr.heap.size + 1, 0, none⟩) K cp ∧ Rg w' wr.heap.size (wr.heap.size + 1) K cn cp N P) :
    Qst w w' H n items S p s t f q d Bm us us ls frd D rk K vn vp N P := by
  have hsz := h.sz
  refine ⟨h.reset hS hb, ho.same (hb.block Bm (by have := h.dis.lS; omega) (by omega)), ?_⟩
  by_cases e : K = 0
  · exact .inl ⟨e, h0 e⟩
  · obtain ⟨cn, cp, e1, e2, hr⟩ := h1 (by omega)
    refine .inr ⟨_, _, cn, cp, e1, e2, hr, by omega, by omega, fun j hj => ⟨fun e => ?_, fun e => ?_⟩⟩
    · have := ((h.fam.row j hj).lt _ e).2; omega
    · have := ((h.fam.row j hj).lt _ e).2; omega

/-- an insert -/
theorem Qst.insert {bn bp cn cp : Nat} {N' P' : Nat → Nat} {e : Ending} (h : Qst w wr H n items S p s t f q d Bm us us ls frd D rk K nv pv N P) (hn : nv = .slice (some ⟨bn, 0, none⟩) K cn) (hp : pv = .slice (some ⟨bp, 0, none⟩) K cp) (l1 : Bm < bn) (l2 : Bm < bp) (hd : ∀ j, j < 2 * n + 3 → (us j).ownBlock ≠ some bn ∧ (us j).ownBlock ≠ some bp) (hi : InsPost bn bp K cn cp N' P' wr e w') :
    Qst w w' H n items S p s t f q d Bm us us ls frd D rk K nv pv N' P' := by
  obtain ⟨_, hs, hr, ho, hk⟩ := hi
  have D' := h.ns.dis
  have lS := D'.lS
  have hsz := h.ns.sz
  have hk' : ∀ b, b < Bm + 1 → w'.heap[b]? = wr.heap[b]? := fun b hb => hk b (by omega) (by omega) (by omega)
  have N0 := h.ns
  refine ⟨⟨(hk' S (by omega)).trans N0.bS, (hk' p (by have := D'.lp; omega)).trans N0.bp, (hk' s (by have := D'.ls; omega)).trans N0.bs, (hk' t (by have := D'.lt; omega)).trans N0.bt, (hk' f (by have := D'.lf; omega)).trans N0.bf, (hk' q (by have := D'.lq; omega)).trans N0.bq, (hk' d (by have := D'.ld; omega)).trans N0.bd, ⟨fun j hj => ownsRow_same (N0.fam.row j hj) fun b hb _ => hk b (fun e => (hd j hj).1 (by rw [hb, e])) (fun e => (hd j hj).2 (by rw [hb, e])) ((N0.fam.row j hj).lt b hb).2, N0.fam.apart, N0.fam.emp⟩, ?_, by omega, D'⟩, h.om.same (hk' Bm (by omega)), .inr ⟨bn, bp, cn, cp, hn, hp, hr, l1, l2, hd⟩⟩
  exact N0.bel.trans ⟨ho.1, ho.2.1, ho.2.2, by omega, fun k hk2 => hk' k (by omega)⟩

/-- a row has grown -/
theorem Qst.grow (h : Qst w wr H n items S p s t f q d Bm us us ls frd D rk K nv pv N P) {j l : Nat} {o : Obj} {v u' : Value} {z : Int} (hj : j < 2 * n + 3) (hv : us j = v) (hl : (ls j).length = l)
    (ho : w'.ownsRow (Bm + 1) 3 1 u' (l + 1) ((ls j).map (Value.int .i64) ++ [.int .i64 z])) (hg : (wr.alloc o).grownBy w' v.ownBlock) (hloc : u'.ownBlock = v.ownBlock ∨ u'.ownBlock = some (wr.heap.size + 1)) :
    Qst w w' H n items S p s t f q d Bm us (upd us j u') (upd ls j (ls j ++ [z])) frd D rk K nv pv N P := by
  subst hv
  subst hl
  have hsz := h.ns.sz
  refine ⟨h.ns.grow hj ho hg (by rw [World.size_alloc]; exact hloc), ?_, ?_⟩
  · refine h.om.same ((hg.block Bm (by simp; omega) (fun e => ?_)).trans (Below.heap_alloc _ _ _ (by omega)))
    have := ((h.ns.fam.row j hj).lt Bm e.symm).1
    omega
  · rcases h.rg with e | ⟨bn, bp, cn, cp, e1, e2, hr, l1, l2, hd⟩
    · exact .inl e
    · have hb1 := hr.n.lt
      have hb2 := hr.p.lt
      refine .inr ⟨bn, bp, cn, cp, e1, e2, ⟨(hg.block bn (by simp; omega) (fun e => (hd j hj).1 e.symm)).trans (hr.n.alloc _), (hg.block bp (by simp; omega) (fun e => (hd j hj).2 e.symm)).trans (hr.p.alloc _), hr.ln, hr.lp, hr.ne⟩, l1, l2, fun i hi => ?_⟩
      by_cases e : i = j
      · subst e
        rw [upd_same]
        rcases hloc with e2 | e2
        · rw [e2]; exact hd i hi
        · rw [e2]; simp; omega
      · rw [upd_ne _ _ e]; exact hd i hi
theorem Qst.setT {k : Nat} {u' : Value} (hk : k < n) (h : Qst w wr H n items S p s t f q d Bm us (upd us (n + 3 + k) u') ls frd D rk K nv pv N P) : Qst w (wr.setCell ⟨t, k, none⟩ u') H n items S p s t f q d Bm (upd us (n + 3 + k) u') (upd us (n + 3 + k) u') ls frd D rk K nv pv N P :=
  ⟨h.ns.setT hk, h.om.same (heap_setCell_other wr _ Bm _ (by have := h.ns.dis.lt; simp; omega)), h.rg.keep fun b hb _ _ => heap_setCell_other wr _ b _ (by have := h.ns.dis.lt; simp; omega)⟩
end

/-! ### the rings, plainly -/
theorem np_ok (rn vn : Nat) (id : Nat → Nat) (hid : ∀ r, r < rn → id r < vn) {r : Nat} (hr : r < rn) : (np rn id r).2 (rn + id r) < rn + vn ∧ (np rn id r).2 (rn + id r) ≠ r := by
  have h := rel_all rn vn id hid r (by omega)
  have hv := hid r hr
  by_cases q : (er rn id r).la (id r) < 0
  · rw [(h.no _ hv q).1]; omega
  · obtain ⟨l, _, e2, _, e4, _⟩ := h.yes _ hv (by omega)
    rw [e4]; omega
/-- N, P: as np says, below K -/
def NPis (rn K : Nat) (id : Nat → Nat) (r : Nat) (N P : Nat → Nat) : Prop := ∀ j, j < K → N j = (np rn id r).1 j ∧ P j = (np rn id r).2 j
theorem NPis.start (rn K : Nat) (id : Nat → Nat) : NPis rn K id 0 (fun j => if j < K then j else 0) (fun j => if j < K then j else 0) := fun j hj => by simp [hj, np]
theorem NPis.step {rn K : Nat} {id : Nat → Nat} {r : Nat} {N P : Nat → Nat} (h : NPis rn K id r N P) (hu : rn + id r < K) : NPis rn K id (r + 1) (insN N P (rn + id r) r) (insP N P (rn + id r) r) := fun j hj => by
  have h1 := h j hj
  have h2 := (h (rn + id r) hu).2
  show insN N P (rn + id r) r j = insN (np rn id r).1 (np rn id r).2 (rn + id r) r j ∧ insP N P (rn + id r) r j = insP (np rn id r).1 (np rn id r).2 (rn + id r) r j
  unfold insN insP
  rw [h2]
  refine ⟨?_, ?_⟩
  · by_cases e : j = r
    · subst e; rw [upd_same, upd_same]
    · rw [upd_ne _ _ e, upd_ne _ _ e]
      by_cases e2 : j = (np rn id r).2 (rn + id r)
      · rw [e2, upd_same, upd_same]
      · rw [upd_ne _ _ e2, upd_ne _ _ e2]; exact h1.1
  · by_cases e : j = rn + id r
    · rw [e, upd_same, upd_same]
    · rw [upd_ne _ _ e, upd_ne _ _ e]
      by_cases e2 : j = r
      · rw [e2, upd_same, upd_same]
      · rw [upd_ne _ _ e2, upd_ne _ _ e2]; exact h1.2

/-! ### the rows of the writes -/
def wrow (p : Nat → Int × Int) (rn : Nat) (wS wI : Nat → Int) (j k : Nat) : List Int := (List.range k).map fun i => wid p rn (wI ((wS j).toNat + i), (j : Int))
theorem wrow_len (p : Nat → Int × Int) (rn : Nat) (wS wI : Nat → Int) (j k : Nat) : (wrow p rn wS wI j k).length = k := by simp [wrow]
structure Wsp (n rn : Nat) (wS wI : Nat → Int) (p : Nat → Int × Int) (L0 : Nat → List Int) (t k : Nat) (ls : Nat → List Int) : Prop where
  old : ∀ j, j < n + 3 → ls j = L0 j
  src : ∀ j, j < t → j < n → ls (n + 3 + j) = wrow p rn wS wI j (wS (j + 1) - wS j).toNat
  cur : t < n → ls (n + 3 + t) = wrow p rn wS wI t k
  rest : ∀ j, t < j → j < n → ls (n + 3 + j) = []
section
variable {n rn : Nat} {wS wI : Nat → Int} {p : Nat → Int × Int} {L0 : Nat → List Int} {t k : Nat} {ls : Nat → List Int}
theorem Wsp.start (h : ∀ j, j < n → L0 (n + 3 + j) = []) : Wsp n rn wS wI p L0 0 0 L0 := ⟨fun _ _ => rfl, fun j hj => by omega, fun hn => h 0 hn, fun j _ hj => h j hj⟩
theorem Wsp.next (h : Wsp n rn wS wI p L0 t k ls) (hk : k = (wS (t + 1) - wS t).toNat) : Wsp n rn wS wI p L0 (t + 1) 0 ls := by
  subst hk
  refine ⟨h.old, fun j hj hn => ?_, fun h1 => h.rest (t + 1) (by omega) h1, fun j h1 h2 => h.rest j (by omega) h2⟩
  by_cases e : j = t
  · subst e; exact h.cur hn
  · exact h.src j (by omega) hn
theorem Wsp.step (h : Wsp n rn wS wI p L0 t k ls) (ht : t < n) {z : Int} (hz : z = wid p rn (wI ((wS t).toNat + k), (t : Int))) : Wsp n rn wS wI p L0 t (k + 1) (upd ls (n + 3 + t) (ls (n + 3 + t) ++ [z])) := by
  refine ⟨fun j hj => by rw [upd_ne _ _ (by omega)]; exact h.old j hj, fun j hj hn => by rw [upd_ne _ _ (by omega)]; exact h.src j hj hn, fun _ => ?_, fun j h1 h2 => by rw [upd_ne _ _ (by omega)]; exact h.rest j h1 h2⟩
  rw [upd_same, h.cur ht, hz]
  simp [wrow, List.range_succ]
end

/-- WHAT newSearch MAKES -/
def NsPost (H n items : Nat) (rS rI rw wS wI : Nat → Int) (w : World) (e : Ending) (w' : World) : Prop :=
  ∃ (S bp bs bt bf bq bd Bm rn : Nat) (us : Nat → Value) (ls : Nat → List Int) (frd : Nat → Int) (D : DataW Unit) (nv pv : Value) (N P : Nat → Nat) (p : Nat → Int × Int),
    e = .returned (.pointer (some ⟨S, 0, none⟩)) ∧ (p = fun j => (rI ((rS 0).toNat + j), rw ((rS 0).toNat + j))) ∧ rS n = rS 0 + (rn : Int) ∧ (∀ j, j ≤ n → frd j = rS j - rS 0) ∧
    (∀ j, j < n → ls j = srcN (fun i => rw ((rS j).toNat + i)) (rS (j + 1) - rS j).toNat) ∧ ls n = rdl rS n ∧ ls (n + 1) = (fo p rn).map (fun j => (p j).2) ∧ (∀ j, j < n → ls (n + 3 + j) = wrow p rn wS wI j (wS (j + 1) - wS j).toNat) ∧
    NPis rn (rn + (fo p rn).length) (idv p) rn N P ∧ Qst w w' H n items S bp bs bt bf bq bd Bm us us ls frd D rn (rn + (fo p rn).length) nv pv N P

theorem ns_post {H n items S bp bs bt bf bq bd Bm r lw q0 : Nat} {rS rI rw wS wI frd : Nat → Int} {w w' : World} {us : Nat → Value} {L0 ls : Nat → List Int} {D : DataW Unit} {nv pv : Value} {N P : Nat → Nat} {p : Nat → Int × Int}
    (hp : p = fun j => (rI (q0 + j), rw (q0 + j))) (hq : rS 0 = (q0 : Int)) (hr : rS n = ((q0 + r : Nat) : Int)) (hf : ∀ j, j ≤ n → frd j = rS j - (q0 : Int)) (hl : Lsp n rS rw p n 0 r L0) (hlw : lw = (fo p r).length) (hnp : NPis r (r + lw) (idv p) r N P)
    (hs : Qst w w' H n items S bp bs bt bf bq bd Bm us us ls frd D r (r + lw) nv pv N P) (hw : Wsp n r wS wI p L0 n 0 ls) : NsPost H n items rS rI rw wS wI w (.returned (.pointer (some ⟨S, 0, none⟩))) w' := by
  subst hlw
  refine ⟨S, bp, bs, bt, bf, bq, bd, Bm, r, us, ls, frd, D, nv, pv, N, P, p, rfl, by rw [hq]; exact hp, by omega, fun j hj => by rw [hf j hj, hq], fun j hj => ?_, ?_, ?_, fun j hj => hw.src j hj hj, hnp, hs⟩
  · rw [hw.old j (by omega)]; exact hl.src j hj hj
  · rw [hw.old n (by omega), hl.rd]; simp
  · rw [hw.old (n + 1) (by omega)]; exact hl.wr

theorem reset_sum (S r l : Nat) (v0 v1 v2 v3 v4 v5 v8 v9 v10 : Value) (w : World) (hS : Blk w S #[v0, v1, v2, v3, v4, v5, .slice none 0 0, .slice none 0 0, v8, v9, v10] 67) (hK : r + l ≤ 1048576) :
    Calls Try.prog 42 #[.pointer (some ⟨S, 6, none⟩), .int .i64 ((r : Int) + (l : Int))] w fun e w' => ResetPost S (r + l) v0 v1 v2 v3 v4 v5 v8 v9 v10 w e w' := by
  have h := reset_any S (r + l) v0 v1 v2 v3 v4 v5 v8 v9 v10 w hS hK
  rw [Int.natCast_add] at h
  exact h
theorem insert_sum (bn bp K cn cp r i v : Nat) (N P : Nat → Nat) (w : World) (h : Rg w bn bp K cn cp N P) (hu : r + i < K) (hv : v < K) (hl : P (r + i) < K) (hK : K ≤ 1048576) (hne : r + i ≠ v) (hPv : P (r + i) ≠ v) :
    Calls Try.prog 43 #[.agg #[.slice (some ⟨bn, 0, none⟩) K cn, .slice (some ⟨bp, 0, none⟩) K cp], .int .i64 ((r : Int) + (i : Int)), .int .i64 (v : Nat)] w fun e w' => InsPost bn bp K cn cp (insN N P (r + i) v) (insP N P (r + i) v) w e w' := by
  have h := insert_any bn bp K cn cp (r + i) v N P w h hu hv hl hK hne hPv
  rw [Int.natCast_add] at h
  exact h
theorem wf_i32' {x : Int} (h1 : -2147483648 ≤ x) (h2 : x ≤ 2147483647) : (Lit.int .i32 x).wf = true := WalkArith.wf_i32 ⟨h1, h2⟩
end Go.Proofs.Qxb6602948a

import Derived.Test.Qxb6602948aBfs
namespace Go.Proofs.Qxb6602948a
open Go.RowKit Go.Kx Go.Uf Go.Maps
set_option linter.unusedVariables false

theorem mk41 (n : Nat) (h : n ≤ 65536) (w : World) : (Instr.makeSlice 41 (.int .i64 (n : Int)) (.int .i64 (n : Int))).run Try.prog w = .ok (.slice (some ⟨w.heap.size, 0, none⟩) n n) (w.alloc (.cells (rowOf (fun _ => .slice none 0 0) n) 22)) := by
  obtain ⟨i, hi, hz0, hz1, hz2⟩ := info_parts info22
  have := run_make (P := Try.prog) w 41 22 i (.slice none 0 0) Try.underlying41 hi hz0 .i64 .i64 n n (by omega) (by omega) (by rw [hz2]; omega) (by omega)
  rw [this, rowOf_const, hz1]; simp; rfl
theorem mk22n (n : Nat) (h : n ≤ 65536) (w : World) : (Instr.makeSlice 22 (.int .i64 (n : Int)) (.int .i64 (n : Int))).run Try.prog w = .ok (.slice (some ⟨w.heap.size, 0, none⟩) n n) (w.alloc (.cells (rowOf (fun _ => .int .i64 0) n) 3)) := by
  obtain ⟨i, hi, hz0, hz1, hz2⟩ := info_parts info3
  have := run_make (P := Try.prog) w 22 3 i (.int .i64 0) Try.underlying22 hi hz0 .i64 .i64 n n (by omega) (by omega) (by rw [hz2]; omega) (by omega)
  rw [this, rowOf_const, hz1]; simp; rfl
theorem mk24n (n : Nat) (h : n ≤ 65536) (w : World) : (Instr.makeSlice 24 (.int .i64 (n : Int)) (.int .i64 (n : Int))).run Try.prog w = .ok (.slice (some ⟨w.heap.size, 0, none⟩) n n) (w.alloc (.cells (rowOf (fun _ => .bool false) n) 4)) := by
  obtain ⟨i, hi, hz0, hz1, hz2⟩ := info_parts info4
  have := run_make (P := Try.prog) w 24 4 i (.bool false) Try.underlying24 hi hz0 .i64 .i64 n n (by omega) (by omega) (by rw [hz2]; omega) (by omega)
  rw [this, rowOf_const, hz1]; simp; rfl

/-- the users in memory -/
structure Uw (w wr : World) (items : Nat) (g : Grp) (us : Nat → Value) : Prop where
  gp : Gp wr w.heap.size (.slice (some ⟨w.heap.size, 0, none⟩) items items) g us
  len : g.length = items
  bel : Below w.heap.size w wr

theorem Uw.start (w : World) (items : Nat) (h : items ≤ 65536) : Uw w (w.alloc (.cells (rowOf (fun _ => .slice none 0 0) items) 22)) items (List.replicate items (0, [])) (fun _ => .slice none 0 0) := by
  have hl : (List.replicate items ((0, []) : Nat × List Nat)).length = items := by simp
  refine ⟨⟨?_, fun j hj => ?_, fun i j _ _ _ b hb => by simp [Value.ownBlock] at hb, fun hv => by simp at hv⟩, hl, below_alloc (Below.refl _ _) _⟩
  · rw [hl]
    exact World.ownsRow_lit (size := 1) w (rowOf (fun _ => .slice none 0 0) items) items (Nat.le_refl _) (by unfold maxLen; omega) (by rw [rowOf_size, Nat.mul_one])
  · rw [gl_replicate]
    exact World.ownsRow_nil _ _ _ _

theorem Uw.cell {w wr : World} {items : Nat} {g : Grp} {us : Nat → Value} (h : Uw w wr items g us) {x : Nat} (hx : x < items) : wr.cell? ⟨w.heap.size, x, none⟩ = some (us x) := by
  obtain ⟨h1, rfl, h3⟩ := h
  rw [h1.outer.cellAt x (by omega)]; simp [hx]

theorem Uw.push {w wr w' : World} {items x t : Nat} {g : Grp} {us : Nat → Value} {o : Obj} {u' : Value} (h : Uw w wr items g us) (hx : x < items)
    (ho : w'.ownsRow w.heap.size 3 1 u' ((gl g x).length + 1) ((gl g x).map natv ++ [natv t])) (hg : (wr.alloc o).grownBy w' (us x).ownBlock) (hloc : u'.ownBlock = (us x).ownBlock ∨ u'.ownBlock = some (wr.alloc o).heap.size) :
    Uw w (w'.setCell ⟨w.heap.size, x, none⟩ u') items (addTo g x t) (upd us x u') := by
  obtain ⟨h1, rfl, h3⟩ := h
  have ha := h1.add hx (below_alloc (Below.refl _ _) _) (by simp) ho hg hloc
  refine ⟨ha, addTo_length _ _ _, ((below_alloc h3 _).grown hg (by have := h3.size; simp; omega) (fun q hq => by have := ((h1.inner x hx).lt q hq).1; omega)).setCell (by simp) _⟩

theorem Uw.out9 {w wr w' : World} {items x : Nat} {g : Grp} {us : Nat → Value} {o : Obj} (h : Uw w wr items g us) (hx : x < items) (hg : (wr.alloc o).grownBy w' (us x).ownBlock) : w'.cell? ⟨w.heap.size, x, none⟩ = some (us x) ∧ w'.frozen? ⟨w.heap.size, x, none⟩ = false := by
  obtain ⟨h1, rfl, h3⟩ := h
  have ho9 := h1.out9 hx (below_alloc (Below.refl _ _) _) hg
  exact ⟨by rw [ho9.cellAt x (by omega)]; simp [hx], ho9.frozenAt x⟩

/-- the users, to be read -/
def UsOk (wA : World) (U items : Nat) (ux : Nat → List Nat) : Prop := ∀ x, x < items → ∃ au cu, wA.cell? ⟨U, x, none⟩ = some (.slice au (ux x).length cu) ∧ Rw wA au (ux x).length cu (nats (fun i => (ux x).getD i 0)) ∧ ∀ y, au = some y → y.block < wA.heap.size

theorem Uw.ok {w wr : World} {items : Nat} {g : Grp} {us : Nat → Value} (h : Uw w wr items g us) : UsOk wr w.heap.size items (fun x => gl g x) := fun x hx => by
  have hc := h.cell hx
  have hi := h.gp.inner x (by rw [h.len]; exact hx)
  obtain ⟨a, c, hu⟩ := ownsRow_shape hi
  have hlt := hi.lt
  rw [hu] at hc hi hlt
  exact ⟨a, c, hc, row_rw hi, fun y hy => by subst hy; exact (hlt y.block rfl).2⟩

/-- a group more, its row as it lies -/
theorem Gp.snocR {w w1 w' : World} {base r : Nat} {v v' mv : Value} {g : Grp} {us : Nat → Value} {l : List Nat} (h : Gp w base v g us) (h1 : Below w.heap.size w w1)
    (ho : w'.ownsRow base 22 1 v' (g.length + 1) ((List.range g.length).map us ++ [mv])) (hg : w1.grownBy w' v.ownBlock) (hm : w.ownsRow base 3 1 mv l.length (l.map natv)) (hap : ∀ j, j < g.length → ∀ b, (us j).ownBlock = some b → mv.ownBlock ≠ some b) :
    Gp w' base v' (g ++ [(r, l)]) (upd us g.length mv) := by
  have hkeep : ∀ b, b < w.heap.size → some b ≠ v.ownBlock → w'.heap[b]? = w.heap[b]? := fun b hb hne => (hg.block b (Nat.lt_of_lt_of_le hb h1.size) hne).trans (h1.block b hb)
  refine ⟨?_, fun j hj => ?_, fun i j hi hj hij b hb => ?_, fun hv => ?_⟩
  · have e : (List.range (g ++ [(r, l)]).length).map (upd us g.length mv) = (List.range g.length).map us ++ [mv] := by
      simp only [List.length_append, List.length_cons, List.length_nil, List.range_succ, Nat.zero_add, List.map_append, List.map_cons, List.map_nil, upd_same]
      congr 1
      apply List.map_congr_left
      intro a ha
      exact upd_ne _ _ (by have := List.mem_range.1 ha; omega)
    rw [e]
    simpa using ho
  · by_cases q : j = g.length
    · subst q
      rw [upd_same, gl_snoc_eq]
      exact ownsRow_same hm fun b hb hB => hkeep b (hm.lt b hb).2 (fun e => row_ne hm h.outer (by decide) hb e.symm)
    · have hj' : j < g.length := by simp at hj; omega
      rw [upd_ne _ _ q, gl_snoc_lt hj']
      exact ownsRow_same (h.inner j hj') fun b hb hB => hkeep b ((h.inner j hj').lt b hb).2 (fun e => row_ne (h.inner j hj') h.outer (by decide) hb e.symm)
  · simp at hi hj
    by_cases q : i = g.length
    · subst q
      rw [upd_same] at hb
      rw [upd_ne _ _ (fun e => hij e.symm)]
      intro e
      exact hap j (by omega) b e hb
    · rw [upd_ne _ _ q] at hb
      by_cases q2 : j = g.length
      · subst q2; rw [upd_same]; exact hap i (by omega) b hb
      · rw [upd_ne _ _ q2]; exact h.apart i j (by omega) (by omega) hij b hb
  · subst hv
    rcases ho.2 with ⟨_, h0⟩ | ⟨g', cap, cur, h0, _⟩
    · omega
    · simp at h0

/-- the search from t, under way -/
structure Bz (lo n items : Nat) (ux : Nat → List Nat) (κ : Nat → Nat) (t Bc : Nat) (w0 : World) (v0 : Value) (wr : World) (a' : Option Addr) (c' : Nat) (cp : Nat → Int) (sn : Nat → Bool) (ms : List Nat) (I : Nat) : Prop where
  bf : Bf wr Bc (Bc + 1) (Bc + 2) n items cp sn (.slice a' ms.length c') ms
  bi : BI lo n ux κ t cp sn ms
  dn : Done ux sn ms I
  sp : Sp Bc (Bc + 1) w0 wr v0 (.slice a' ms.length c')

def ZPost (lo n items : Nat) (ux : Nat → List Nat) (κ : Nat → Nat) (t Bc : Nat) (w0 : World) (v0 : Value) (sn : Nat → Bool) (ms : List Nat) (I x : Nat) (e : Ending) (w' : World) : Prop :=
  ∃ a' c' cp' sn' ms', e = .returned (.slice a' ms'.length c') ∧ Bz lo n items ux κ t Bc w0 v0 w' a' c' cp' sn' ms' I ∧ I < ms'.length ∧ ms'.getD I 0 = ms.getD I 0 ∧ (∀ y, sn y = true → sn' y = true) ∧ sn' x = true

theorem spread_any (x c lo n items : Nat) (ux : Nat → List Nat) (κ : Nat → Nat) (t U : Nat) (wA : World) (Bs : Nat) (w0 : World) (v0 : Value) (w : World) (a : Option Addr) (cm : Nat) (cp : Nat → Int) (sn : Nat → Bool) (ms : List Nat) (I : Nat)
    (C : Ctx lo n ux κ) (h : Bz lo n items ux κ t wA.heap.size w0 v0 w a cm cp sn ms I) (hI : I < ms.length) (hx : x < items) (hm : ms.getD I 0 ∈ ux x) (hit : items ≤ 65536) (hn : n ≤ 4096) (hul : (ux x).length ≤ 65536) (hus : UsOk wA U items ux) (hU : U < wA.heap.size) (hA : Below wA.heap.size wA w0) (hb0 : wA.heap.size + 2 ≤ w0.heap.size) (hBs : Bs = wA.heap.size + 1) :
    Calls Try.prog 31 #[.int .i64 (x : Nat), .int .i64 (c : Nat), .slice (some ⟨U, 0, none⟩) items items, .slice (some ⟨Bs, 0, none⟩) items items, .slice (some ⟨wA.heap.size, 0, none⟩) n n, .slice a ms.length cm] w fun e w' => ZPost lo n items ux κ t wA.heap.size w0 v0 sn ms I x e w' := by
  subst hBs
  have hml : ms.length ≤ n := h.bi.len
  by_cases hs : sn x = true
  · refine (spread_old x U (c : Int) _ _ _ n items cp sn a cm ms w hx hit hs h.bf).mono ?_
    rintro e w' ⟨v, rfl, hbf, hsp⟩
    obtain ⟨a', c', hv⟩ := ownsRow_shape hbf.m
    subst hv
    exact ⟨a', c', cp, sn, ms, rfl, ⟨hbf, h.bi, h.dn, h.sp.trans hsp⟩, hI, rfl, fun y hy => hy, hs⟩
  · have hs' : sn x = false := by cases q : sn x; rfl; exact absurd q hs
    obtain ⟨au, cu, k1, k2, k3⟩ := hus x hx
    have hAw : Below wA.heap.size wA w := hA.trans h.sp.bel
    have hmem : ms.getD I 0 ∈ ms := by
      have e : ms.getD I 0 = ms[I] := by simp [List.getD, hI]
      rw [e]; exact List.getElem_mem hI
    obtain ⟨hbi, l, hl⟩ := h.bi.item C hmem hm c
    refine (spread_new x U (c : Int) _ _ _ n items cp sn a cm ms au (ux x).length cu (fun i => (ux x).getD i 0) w hx hit hs' h.bf hU k3 ((hAw.cell (p := ⟨U, x, none⟩) hU).trans k1) (rw_belowB k2 k3 hAw) (fun i hi => ?_) (by omega) hn (Nat.le_trans hb0 h.sp.bel.size)).mono ?_
    · have e : (ux x).getD i 0 = (ux x)[i] := by simp [List.getD, hi]
      show (ux x).getD i 0 < n
      rw [e]; exact (C.mem x _ (List.getElem_mem hi)).2
    rintro e w' ⟨v, rfl, hbf, hsp⟩
    obtain ⟨a', c', hv⟩ := ownsRow_shape hbf.m
    subst hv
    have mono : ∀ y, sn y = true → upd sn x true y = true := fun y hy => by
      by_cases e : y = x
      · subst e; exact upd_same _ _ _
      · rw [upd_ne _ _ e]; exact hy
    refine ⟨a', c', _, _, _, rfl, ⟨hbf, hbi, h.dn.more (by omega) mono hl, h.sp.trans hsp⟩, ?_, ?_, mono, upd_same _ _ _⟩
    · rw [hl, List.length_append]; omega
    · rw [hl]; simp [List.getD, List.getElem?_append, hI]
end Go.Proofs.Qxb6602948a

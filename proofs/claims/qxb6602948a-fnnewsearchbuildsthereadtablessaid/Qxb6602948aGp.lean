import Derived.Test.Qxb6602948aUf
import Derived.Test.Qxb6602948aBase
import Derived.Maps.OwnSet
import Derived.Maps.OwnOps
import Derived.Maps.AppendAt
namespace Go.Proofs.Qxb6602948a
open Go.RowKit Go.Kx Go.Uf
set_option linter.unusedVariables false

abbrev natv (t : Nat) : Value := .int .i64 (t : Nat)
def gk (g : List (Nat × List Nat)) (j : Nat) : Nat := (g.getD j (0, [])).1
def gl (g : List (Nat × List Nat)) (j : Nat) : List Nat := (g.getD j (0, [])).2

theorem ownsRow_same {w w' : World} {base : Nat} {e : TypeId} {size : Nat} {v : Value} {n : Nat} {xs : List Value} (h : w.ownsRow base e size v n xs) (hk : ∀ b, v.ownBlock = some b → base ≤ b → w'.heap[b]? = w.heap[b]?) : w'.ownsRow base e size v n xs := by
  obtain ⟨h1, h2⟩ := h
  refine ⟨h1, ?_⟩
  rcases h2 with h2 | ⟨g, cap, cur, rfl, hg, hh, r⟩
  · exact .inl h2
  · exact .inr ⟨g, cap, cur, rfl, hg, (hk g rfl hg).trans hh, r⟩

/-- two rows of different elements lie apart -/
theorem row_ne {w : World} {base : Nat} {e e' : TypeId} {s s' : Nat} {v u : Value} {n m : Nat} {xs ys : List Value} (h : w.ownsRow base e s v n xs) (k : w.ownsRow base e' s' u m ys) (he : e ≠ e') {b : Nat} (hv : v.ownBlock = some b) : u.ownBlock ≠ some b := by
  rcases h.2 with ⟨rfl, _⟩ | ⟨g, cap, cur, rfl, _, hh, _⟩
  · simp [Value.ownBlock] at hv
  · simp [Value.ownBlock] at hv
    subst hv
    rcases k.2 with ⟨rfl, _⟩ | ⟨g', cap', cur', rfl, _, hh', _⟩
    · simp [Value.ownBlock]
    · simp [Value.ownBlock]
      rintro rfl
      rw [hh] at hh'
      simp at hh'
      exact he hh'.2

/-- the groups in memory -/
structure Gp (w : World) (base : Nat) (v : Value) (g : List (Nat × List Nat)) (us : Nat → Value) : Prop where
  outer : w.ownsRow base 22 1 v g.length ((List.range g.length).map us)
  inner : ∀ j, j < g.length → w.ownsRow base 3 1 (us j) (gl g j).length ((gl g j).map natv)
  apart : ∀ i j, i < g.length → j < g.length → i ≠ j → ∀ b, (us i).ownBlock = some b → (us j).ownBlock ≠ some b
  nilv : v = .slice none 0 0 → g = []

theorem Gp.same {w w' : World} {base : Nat} {v : Value} {g : List (Nat × List Nat)} {us : Nat → Value} (h : Gp w base v g us) (hk : ∀ b, base ≤ b → b < w.heap.size → w'.heap[b]? = w.heap[b]?) : Gp w' base v g us :=
  ⟨ownsRow_same h.outer fun b hb hB => hk b hB (h.outer.lt b hb).2, fun j hj => ownsRow_same (h.inner j hj) fun b hb hB => hk b hB ((h.inner j hj).lt b hb).2, h.apart, h.nilv⟩

theorem Gp.start (w : World) (base : Nat) (us : Nat → Value) : Gp w base (.slice none 0 0) [] us :=
  ⟨World.ownsRow_nil _ _ _ _, fun j hj => by simp at hj, fun i j hi => by simp at hi, fun _ => rfl⟩

theorem gl_snoc_lt {g : List (Nat × List Nat)} {x : Nat × List Nat} {j : Nat} (hj : j < g.length) : gl (g ++ [x]) j = gl g j := by
  unfold gl; simp [List.getD, List.getElem?_append, hj]
theorem gl_snoc_eq {g : List (Nat × List Nat)} {x : Nat × List Nat} : gl (g ++ [x]) g.length = x.2 := by
  unfold gl; simp [List.getD]

/-- a new group, empty yet -/
theorem Gp.snoc {w w1 w' : World} {base : Nat} {v v' : Value} {g : List (Nat × List Nat)} {us : Nat → Value} {r : Nat} (h : Gp w base v g us) (h1 : Below w.heap.size w w1)
    (ho : w'.ownsRow base 22 1 v' (g.length + 1) ((List.range g.length).map us ++ [.slice none 0 0])) (hg : w1.grownBy w' v.ownBlock) : Gp w' base v' (g ++ [(r, [])]) (upd us g.length (.slice none 0 0)) := by
  have hkeep : ∀ b, b < w.heap.size → some b ≠ v.ownBlock → w'.heap[b]? = w.heap[b]? := fun b hb hne => (hg.block b (Nat.lt_of_lt_of_le hb h1.size) hne).trans (h1.block b hb)
  refine ⟨?_, fun j hj => ?_, fun i j hi hj hij b hb => ?_, fun hv => ?_⟩
  · have e : (List.range (g ++ [(r, ([] : List Nat))]).length).map (upd us g.length (.slice none 0 0)) = (List.range g.length).map us ++ [.slice none 0 0] := by
      simp only [List.length_append, List.length_cons, List.length_nil, List.range_succ, Nat.zero_add, List.map_append, List.map_cons, List.map_nil, upd_same]
      congr 1
      apply List.map_congr_left
      intro a ha
      exact upd_ne _ _ (by have := List.mem_range.1 ha; omega)
    rw [e]
    simpa using ho
  · by_cases q : j = g.length
    · subst q
      rw [upd_same, gl_snoc_eq]
      exact World.ownsRow_nil _ _ _ _
    · have hj' : j < g.length := by simp at hj; omega
      rw [upd_ne _ _ q, gl_snoc_lt hj']
      exact ownsRow_same (h.inner j hj') fun b hb hB => hkeep b ((h.inner j hj').lt b hb).2 (fun e => row_ne (h.inner j hj') h.outer (by decide) hb e.symm)
  · simp at hi hj
    by_cases q : i = g.length
    · subst q; rw [upd_same] at hb; simp [Value.ownBlock] at hb
    · rw [upd_ne _ _ q] at hb
      by_cases q2 : j = g.length
      · subst q2; rw [upd_same]; simp [Value.ownBlock]
      · rw [upd_ne _ _ q2]; exact h.apart i j (by omega) (by omega) hij b hb
  · subst hv
    rcases ho.2 with ⟨_, h0⟩ | ⟨g', cap, cur, h0, _⟩
    · omega
    · simp at h0

def addTo (g : List (Nat × List Nat)) (c t : Nat) : List (Nat × List Nat) := g.set c (gk g c, gl g c ++ [t])
theorem addTo_length (g : List (Nat × List Nat)) (c t : Nat) : (addTo g c t).length = g.length := by simp [addTo]
theorem gl_addTo_same {g : List (Nat × List Nat)} {c t : Nat} (hc : c < g.length) : gl (addTo g c t) c = gl g c ++ [t] := by
  have e : gl g c = g[c].2 := by unfold gl; simp [List.getD, hc]
  rw [e]; unfold addTo; conv => lhs; unfold gl
  simp [List.getD, hc]
theorem gl_addTo_ne {g : List (Nat × List Nat)} {c t j : Nat} (h : j ≠ c) : gl (addTo g c t) j = gl g j := by
  unfold addTo; conv => lhs; unfold gl
  conv => rhs; unfold gl
  have : c ≠ j := fun e => h e.symm
  simp [List.getD, this]

/-- the outer row stands while an inner one grows -/
theorem Gp.out9 {w w1 w' : World} {base c : Nat} {v : Value} {g : List (Nat × List Nat)} {us : Nat → Value} (h : Gp w base v g us) (hc : c < g.length) (h1 : Below w.heap.size w w1) (hg : w1.grownBy w' (us c).ownBlock) :
    w'.ownsRow base 22 1 v g.length ((List.range g.length).map us) :=
  ownsRow_same h.outer fun b hb hB => ((hg.block b (Nat.lt_of_lt_of_le (h.outer.lt b hb).2 h1.size) (fun e => row_ne h.outer (h.inner c hc) (by decide) hb e.symm)).trans (h1.block b (h.outer.lt b hb).2))

/-- one member more -/
theorem Gp.add {w w1 w' : World} {base go cap c t : Nat} {u' : Value} {g : List (Nat × List Nat)} {us : Nat → Value} (h : Gp w base (.slice (some ⟨go, 0, none⟩) g.length cap) g us) (hc : c < g.length) (h1 : Below w.heap.size w w1) (hs1 : w.heap.size ≤ w1.heap.size)
    (ho : w'.ownsRow base 3 1 u' ((gl g c).length + 1) ((gl g c).map natv ++ [natv t])) (hg : w1.grownBy w' (us c).ownBlock) (hloc : u'.ownBlock = (us c).ownBlock ∨ u'.ownBlock = some w1.heap.size) :
    Gp (w'.setCell ⟨go, c, none⟩ u') base (.slice (some ⟨go, 0, none⟩) g.length cap) (addTo g c t) (upd us c u') := by
  have hkeep : ∀ b, b < w.heap.size → some b ≠ (us c).ownBlock → w'.heap[b]? = w.heap[b]? := fun b hb hne => (hg.block b (Nat.lt_of_lt_of_le hb h1.size) hne).trans (h1.block b hb)
  have hout : w'.ownsRow base 22 1 (.slice (some ⟨go, 0, none⟩) g.length cap) g.length ((List.range g.length).map us) :=
    ownsRow_same h.outer fun b hb hB => hkeep b (h.outer.lt b hb).2 (fun e => row_ne h.outer (h.inner c hc) (by decide) hb e.symm)
  have hin : ∀ j, j < g.length → j ≠ c → w'.ownsRow base 3 1 (us j) (gl g j).length ((gl g j).map natv) := fun j hj hne =>
    ownsRow_same (h.inner j hj) fun b hb hB => hkeep b ((h.inner j hj).lt b hb).2 (fun e => h.apart j c hj hc hne b hb e.symm)
  have hst : ∀ {v : Value} {n : Nat} {xs : List Value}, w'.ownsRow base 3 1 v n xs → (w'.setCell ⟨go, c, none⟩ u').ownsRow base 3 1 v n xs := fun hv =>
    ownsRow_same hv fun b hb hB => heap_setCell_other w' ⟨go, c, none⟩ b u' (fun e => row_ne hv hout (by decide) hb (by simp [Value.ownBlock]; exact e.symm))
  refine ⟨?_, fun j hj => ?_, fun i j hi hj hij b hb => ?_, fun hv => by simp at hv⟩
  · have hs := (hout.stored c u').1
    have e : ((List.range g.length).map us).set c u' = (List.range g.length).map (upd us c u') := by
      apply List.ext_getElem?
      intro i
      by_cases q : c = i
      · subst q; simp [hc, upd]
      · have q' : i ≠ c := fun e => q e.symm
        by_cases hi : i < g.length <;> simp [q, hi, upd, q']
    rw [e] at hs
    rw [addTo_length]
    exact hs
  · rw [addTo_length] at hj
    by_cases q : j = c
    · subst q
      rw [upd_same, gl_addTo_same hc]
      have := hst ho
      simpa using this
    · rw [upd_ne _ _ q, gl_addTo_ne q]
      exact hst (hin j hj q)
  · rw [addTo_length] at hi hj
    have hnew : ∀ x, x < g.length → x ≠ c → ∀ b, (us x).ownBlock = some b → u'.ownBlock ≠ some b := by
      intro x hx hxc b hb e
      rcases hloc with hl | hl
      · rw [hl] at e; exact h.apart x c hx hc hxc b hb e
      · rw [hl] at e
        have := ((h.inner x hx).lt b hb).2
        simp at e
        omega
    by_cases q : i = c
    · subst q
      rw [upd_same] at hb
      rw [upd_ne _ _ (fun e => hij e.symm)]
      intro e
      exact hnew j hj (fun e => hij e.symm) b e hb
    · rw [upd_ne _ _ q] at hb
      by_cases q2 : j = c
      · subst q2; rw [upd_same]; exact hnew i hi q b hb
      · rw [upd_ne _ _ q2]; exact h.apart i j hi hj hij b hb

/-- a slice of slices of numbers; nil just where it is empty -/
def Lists (w : World) (a : Option Addr) (c : Nat) (ls : List (List Nat)) : Prop :=
  (a = none → ls = [] ∧ c = 0) ∧ (ls = [] → a = none) ∧ ∀ x, a = some x → ∀ j, j < ls.length → ∃ aj cj, w.cell? (x.add j) = some (.slice aj (ls.getD j []).length cj) ∧ Rw w aj (ls.getD j []).length cj (fun i => natv ((ls.getD j []).getD i 0))

theorem row_rw {w : World} {base n c : Nat} {a : Option Addr} {l : List Nat} (h : w.ownsRow base 3 1 (.slice a n c) n (l.map natv)) : Rw w a n c (fun i => natv (l.getD i 0)) := by
  rcases h.2 with ⟨e, h0⟩ | ⟨g, cap, cur, e, _, hh, _⟩
  · simp at e
    obtain ⟨rfl, rfl, rfl⟩ := e
    exact ⟨fun _ => ⟨rfl, rfl⟩, by simp⟩
  · simp at e
    obtain ⟨rfl, rfl⟩ := e
    refine ⟨by simp, fun x hx i hi => ?_⟩
    obtain rfl := Option.some.inj hx
    rw [Addr.add_lit, Nat.zero_add, h.cellAt i (by omega)]
    have hl : i < l.length := by have := h.1; simp at this; omega
    simp [List.getD, hl]

theorem gl_map (g : List (Nat × List Nat)) (j : Nat) : (g.map (·.2)).getD j [] = gl g j := by
  unfold gl
  by_cases h : j < g.length <;> simp [List.getD, h]

theorem Gp.lists {w : World} {base c : Nat} {a : Option Addr} {g : List (Nat × List Nat)} {us : Nat → Value} (h : Gp w base (.slice a g.length c) g us) (hc : g = [] → c = 0 ∧ a = none) : Lists w a c (g.map (·.2)) := by
  refine ⟨?_, ?_, ?_⟩
  · rintro rfl
    rcases h.outer.2 with ⟨e, h0⟩ | ⟨g', cap, cur, e, _⟩
    · obtain rfl : g = [] := List.eq_nil_of_length_eq_zero h0
      exact ⟨rfl, (hc rfl).1⟩
    · simp at e
  · intro e
    exact (hc (by simpa using e)).2
  · rintro x rfl j hj
    rw [List.length_map] at hj
    rcases h.outer.2 with ⟨e, h0⟩ | ⟨g', cap, cur, e, _⟩
    · simp at e
    · simp at e
      obtain ⟨rfl, rfl⟩ := e
      have hi := h.inner j hj
      obtain ⟨aj, cj, hu⟩ : ∃ aj cj, us j = .slice aj (gl g j).length cj := by
        rcases hi.2 with ⟨e, h0⟩ | ⟨g2, cap2, cur2, e, _⟩
        · exact ⟨none, 0, by rw [e, h0]⟩
        · exact ⟨_, _, e⟩
      rw [gl_map]
      refine ⟨aj, cj, ?_, ?_⟩
      · rw [Addr.add_lit, Nat.zero_add, h.outer.cellAt j (by omega)]
        simp [hj, hu]
      · rw [hu] at hi
        exact row_rw hi

/-- the map: each root's place -/
structure Mp (D : DataW Unit) (g : List (Nat × List Nat)) : Prop where
  isMap : Maps.IsMap D
  has : ∀ r : Nat, Maps.has D (.int .i64 (r : Nat)) = true ↔ ∃ c, c < g.length ∧ gk g c = r
  at' : ∀ c, c < g.length → D.atKey (.int .i64 (gk g c : Nat)) (.lit (.int .i64 0)) = .lit (.int .i64 (c : Nat))
  one : ∀ c c', c < g.length → c' < g.length → gk g c = gk g c' → c = c'

theorem gk_snoc_lt {g : List (Nat × List Nat)} {x : Nat × List Nat} {j : Nat} (hj : j < g.length) : gk (g ++ [x]) j = gk g j := by
  unfold gk; simp [List.getD, List.getElem?_append, hj]
theorem gk_snoc_eq {g : List (Nat × List Nat)} {x : Nat × List Nat} : gk (g ++ [x]) g.length = x.1 := by
  unfold gk; simp [List.getD]
theorem gk_addTo (g : List (Nat × List Nat)) (c t j : Nat) : gk (addTo g c t) j = gk g j := by
  unfold addTo
  by_cases h : j = c
  · subst h
    by_cases hj : j < g.length
    · have e : gk g j = g[j].1 := by unfold gk; simp [List.getD, hj]
      rw [e]
      conv => lhs; unfold gk
      simp [List.getD, hj]
    · have : g.set j (gk g j, gl g j ++ [t]) = g := List.set_eq_of_length_le (by omega)
      rw [this]
  · have : c ≠ j := fun e => h e.symm
    conv => lhs; unfold gk
    conv => rhs; unfold gk
    simp [List.getD, this]

theorem Mp.start : Mp (.map []) [] := ⟨⟨_, rfl⟩, fun r => by simp [Maps.has], fun c hc => by simp at hc, fun c c' hc => by simp at hc⟩

theorem Mp.add {D : DataW Unit} {g : List (Nat × List Nat)} (h : Mp D g) (c t : Nat) : Mp D (addTo g c t) := by
  refine ⟨h.isMap, fun r => ?_, fun i hi => ?_, fun i j hi hj e => ?_⟩
  · rw [h.has r, addTo_length]
    simp only [gk_addTo]
  · rw [addTo_length] at hi; rw [gk_addTo]; exact h.at' i hi
  · rw [addTo_length] at hi hj; rw [gk_addTo, gk_addTo] at e; exact h.one i j hi hj e

theorem lit_ne {a b : Nat} (h : a ≠ b) : (Lit.int .i64 (a : Nat) : Lit) ≠ .int .i64 (b : Nat) := by
  intro e; simp at e; omega

theorem Mp.snoc {D : DataW Unit} {g : List (Nat × List Nat)} (h : Mp D g) (r : Nat) (hr : ¬ ∃ c, c < g.length ∧ gk g c = r) (hk : WideAt.IsKeyLit (.int .i64 (r : Nat))) : Mp (D.put (.int .i64 (r : Nat)) (.lit (.int .i64 (g.length : Nat)))) (g ++ [(r, [])]) := by
  have isM : Maps.IsMap (D.put (.int .i64 (r : Nat)) (.lit (.int .i64 (g.length : Nat)))) := by
    obtain ⟨es, rfl⟩ := h.isMap
    exact ⟨_, rfl⟩
  refine ⟨isM, fun q => ?_, fun c hc => ?_, fun c c' hc hc' e => ?_⟩
  · by_cases e : q = r
    · subst e
      rw [Maps.has_put_same h.isMap hk]
      simp only [true_iff]
      exact ⟨g.length, by simp, gk_snoc_eq⟩
    · rw [Maps.has_put_other (lit_ne e), h.has q]
      constructor
      · rintro ⟨c, hc, rfl⟩
        exact ⟨c, by simp; omega, gk_snoc_lt hc⟩
      · rintro ⟨c, hc, hq⟩
        by_cases hcg : c = g.length
        · subst hcg; rw [gk_snoc_eq] at hq; exact absurd hq.symm e
        · have : c < g.length := by simp at hc; omega
          exact ⟨c, this, by rw [gk_snoc_lt this] at hq; exact hq⟩
  · by_cases hcg : c = g.length
    · subst hcg
      rw [gk_snoc_eq, Maps.atKey_put_same h.isMap hk]
    · have hc' : c < g.length := by simp at hc; omega
      rw [gk_snoc_lt hc', Maps.atKey_put_other (lit_ne (fun e => hr ⟨c, hc', e⟩))]
      exact h.at' c hc'
  · simp at hc hc'
    by_cases q1 : c = g.length
    · by_cases q2 : c' = g.length
      · omega
      · exfalso
        have hc2 : c' < g.length := by omega
        subst q1
        rw [gk_snoc_eq, gk_snoc_lt hc2] at e
        exact hr ⟨c', hc2, e.symm⟩
    · have hc1 : c < g.length := by omega
      rw [gk_snoc_lt hc1] at e
      by_cases q2 : c' = g.length
      · exfalso
        subst q2
        rw [gk_snoc_eq] at e
        exact hr ⟨c, hc1, e⟩
      · have hc2 : c' < g.length := by omega
        rw [gk_snoc_lt hc2] at e
        exact h.one c c' hc1 hc2 e

theorem put_old : ∀ (g : List (Nat × List Nat)) (c r t : Nat), c < g.length → gk g c = r → (∀ i j, i < g.length → j < g.length → gk g i = gk g j → i = j) → put r t g = addTo g c t
  | [], c, r, t, hc, _, _ => by simp at hc
  | (q, l) :: g, 0, r, t, hc, hr, _ => by
    have : q = r := by simpa [gk] using hr
    subst this
    simp [put, addTo, gk, gl]
  | (q, l) :: g, c + 1, r, t, hc, hr, hone => by
    have hr' : gk g c = r := by simpa [gk] using hr
    have hne : q ≠ r := by
      intro e
      have := hone 0 (c + 1) (by simp) hc (by rw [hr]; simpa [gk] using e)
      omega
    have ih := put_old g c r t (by simpa using hc) hr' (fun i j hi hj e => by
      have := hone (i + 1) (j + 1) (by simpa using hi) (by simpa using hj) (by simpa [gk] using e)
      omega)
    simp only [put, hne, if_false, ih]
    simp [addTo, gk, gl]

theorem put_new : ∀ (g : List (Nat × List Nat)) (r t : Nat), (¬ ∃ c, c < g.length ∧ gk g c = r) → put r t g = addTo (g ++ [(r, [])]) g.length t
  | [], r, t, _ => by simp [put, addTo, gk, gl]
  | (q, l) :: g, r, t, h => by
    have hne : q ≠ r := fun e => h ⟨0, by simp, by simpa [gk] using e⟩
    have ih := put_new g r t (fun ⟨c, hc, e⟩ => h ⟨c + 1, by simpa using hc, by simpa [gk] using e⟩)
    simp only [put, hne, if_false, ih]
    simp [addTo, gk, gl]

end Go.Proofs.Qxb6602948a

import Derived.Test.Qxb6602948aRi
/- THE RINGS, PLAINLY: inserted one by one, and as the law lays them -/
namespace Go.Proofs.Qxb6602948a
open Go.Kx
set_option linter.unusedVariables false

/-- next and prev behind r inserts -/
def np (rn : Nat) (id : Nat → Nat) : Nat → (Nat → Nat) × (Nat → Nat)
  | 0 => (fun j => j, fun j => j)
  | r + 1 => (insN (np rn id r).1 (np rn id r).2 (rn + id r) r, insP (np rn id r).1 (np rn id r).2 (rn + id r) r)

/-- the law's three rows behind r rounds -/
structure Er where
  en : Nat → Int
  ep : Nat → Int
  la : Nat → Int
def er1 (rn : Nat) (id : Nat → Nat) (r : Nat) (s : Er) : Er :=
  if s.la (id r) < 0 then ⟨upd s.en (rn + id r) (r : Int), upd s.ep r ((rn + id r : Nat) : Int), upd s.la (id r) (r : Int)⟩
  else ⟨upd s.en (s.la (id r)).toNat (r : Int), upd s.ep r (s.la (id r)), upd s.la (id r) (r : Int)⟩
def er (rn : Nat) (id : Nat → Nat) : Nat → Er
  | 0 => ⟨fun _ => 0, fun _ => 0, fun _ => -1⟩
  | r + 1 => er1 rn id r (er rn id r)

structure Rel (rn vn : Nat) (id : Nat → Nat) (r : Nat) (N P : Nat → Nat) (s : Er) : Prop where
  no : ∀ v, v < vn → s.la v < 0 → P (rn + v) = rn + v ∧ N (rn + v) = rn + v
  yes : ∀ v, v < vn → 0 ≤ s.la v → ∃ l, s.la v = ((l : Nat) : Int) ∧ l < r ∧ id l = v ∧ P (rn + v) = l ∧ N l = rn + v ∧ (N (rn + v) : Int) = s.en (rn + v)
  low : ∀ j, j < r → (P j : Int) = s.ep j ∧ ((∀ v, v < vn → s.la v ≠ (j : Int)) → (N j : Int) = s.en j)
  high : ∀ j, r ≤ j → j < rn → N j = j ∧ P j = j
  used : ∀ j, j < r → 0 ≤ s.la (id j)

theorem Rel.start (rn vn : Nat) (id : Nat → Nat) : Rel rn vn id 0 (fun j => j) (fun j => j) (er rn id 0) :=
  ⟨fun v _ _ => ⟨rfl, rfl⟩, fun v _ h => by simp [er] at h, fun j hj => by omega, fun j _ _ => ⟨rfl, rfl⟩, fun j hj => by omega⟩

theorem Rel.step {rn vn : Nat} {id : Nat → Nat} {r : Nat} {N P : Nat → Nat} {s : Er} (h : Rel rn vn id r N P s) (hr : r < rn) (hv : id r < vn) :
    Rel rn vn id (r + 1) (insN N P (rn + id r) r) (insP N P (rn + id r) r) (er1 rn id r s) := by
  obtain ⟨v, ev⟩ : ∃ v, v = id r := ⟨_, rfl⟩
  rw [← ev] at hv ⊢
  have hla : (er1 rn id r s).la = upd s.la v (r : Int) := by unfold er1; rw [← ev]; split <;> rfl
  have hep : (er1 rn id r s).ep = upd s.ep r ((P (rn + v) : Nat) : Int) := by
    unfold er1
    rw [← ev]
    by_cases q : s.la v < 0
    · rw [if_pos q, (h.no v hv q).1]
    · rw [if_neg q]
      obtain ⟨l, e1, _, _, e4, _⟩ := h.yes v hv (by omega)
      rw [e1, e4]
  have hen : (er1 rn id r s).en = upd s.en (P (rn + v)) (r : Int) := by
    unfold er1
    rw [← ev]
    by_cases q : s.la v < 0
    · rw [if_pos q, (h.no v hv q).1]
    · rw [if_neg q]
      obtain ⟨l, e1, _, _, e4, _⟩ := h.yes v hv (by omega)
      rw [e1, e4]; rfl
  obtain ⟨hNr, hPr⟩ := h.high r (Nat.le_refl _) hr
  obtain ⟨z, hz⟩ : ∃ z, z = P (rn + v) := ⟨_, rfl⟩
  rw [← hz] at hep hen
  have hzc : z = rn + v ∨ (z < r ∧ id z = v ∧ N z = rn + v ∧ s.la v = (z : Int)) := by
    by_cases q : s.la v < 0
    · left; rw [hz, (h.no v hv q).1]
    · obtain ⟨l, e1, e2, e3, e4, e5, _⟩ := h.yes v hv (by omega)
      right; rw [hz, e4]; exact ⟨e2, e3, e5, e1⟩
  have hzr : z ≠ r := by omega
  unfold insN insP
  rw [← hz]
  refine ⟨fun u hu hl => ?_, fun u hu hl => ?_, fun j hj => ?_, fun j h1 h2 => ?_, fun j hj => ?_⟩
  · rw [hla] at hl
    have hne : u ≠ v := fun e => by subst e; rw [upd_same] at hl; omega
    rw [upd_ne _ _ hne] at hl
    have h0 := h.no u hu hl
    have : z ≠ rn + u := by omega
    rw [upd_ne _ _ (by omega), upd_ne _ _ (by omega), upd_ne _ _ (by omega), upd_ne _ _ (fun e => this e.symm)]
    exact h0
  · rw [hla] at hl ⊢
    rw [hen]
    by_cases e : u = v
    · subst e
      refine ⟨r, by rw [upd_same], by omega, ev.symm, by rw [upd_same], by rw [upd_same], ?_⟩
      rw [upd_ne _ _ (by omega)]
      rcases hzc with q | ⟨q1, q2, q3, q4⟩
      · rw [q, upd_same, upd_same]
      · rw [upd_ne _ _ (by omega), upd_ne _ _ (by omega)]
        obtain ⟨l, _, _, _, _, _, e6⟩ := h.yes u hu (by omega)
        exact e6
    · rw [upd_ne _ _ e] at hl ⊢
      obtain ⟨l, e1, e2, e3, e4, e5, e6⟩ := h.yes u hu hl
      have hzl : l ≠ z := by
        rcases hzc with q | ⟨q1, q2, q3, q4⟩
        · omega
        · intro w; subst w; exact e (e3.symm.trans q2)
      have hzu : rn + u ≠ z := by omega
      refine ⟨l, e1, by omega, e3, ?_, ?_, ?_⟩
      · rw [upd_ne _ _ (by omega), upd_ne _ _ (by omega)]; exact e4
      · rw [upd_ne _ _ (by omega), upd_ne _ _ hzl]; exact e5
      · rw [upd_ne _ _ (by omega), upd_ne _ _ hzu, upd_ne _ _ hzu]; exact e6
  · rw [hep, hla, hen]
    by_cases e : j = r
    · subst e
      refine ⟨by rw [upd_ne _ _ (by omega), upd_same, upd_same], fun hno => ?_⟩
      exact absurd (upd_same s.la v (j : Int)) (hno v hv)
    · have hj' : j < r := by omega
      obtain ⟨k1, k2⟩ := h.low j hj'
      refine ⟨by rw [upd_ne _ _ (by omega), upd_ne _ _ e, upd_ne _ _ e]; exact k1, fun hno => ?_⟩
      rw [upd_ne _ _ e]
      by_cases q : j = z
      · rw [q, upd_same, upd_same]
      · rw [upd_ne _ _ q, upd_ne _ _ q]
        refine k2 fun u hu hc => ?_
        by_cases q2 : u = v
        · subst q2
          rcases hzc with q3 | ⟨q3, _, _, q4⟩
          · obtain ⟨l, e1, e2, _, e4, _⟩ := h.yes u hu (by omega)
            omega
          · omega
        · exact hno u hu (by rw [upd_ne _ _ q2]; exact hc)
  · have := h.high j (by omega) h2
    have hjz : j ≠ z := by omega
    rw [upd_ne _ _ (by omega), upd_ne _ _ hjz, upd_ne _ _ (by omega), upd_ne _ _ (by omega)]
    exact this
  · rw [hla]
    by_cases e : id j = v
    · rw [e, upd_same]; omega
    · rw [upd_ne _ _ e]
      by_cases q : j = r
      · subst q; exact absurd ev.symm e
      · exact h.used j (by omega)
theorem rel_all (rn vn : Nat) (id : Nat → Nat) (hid : ∀ r, r < rn → id r < vn) : ∀ r, r ≤ rn → Rel rn vn id r (np rn id r).1 (np rn id r).2 (er rn id r)
  | 0, _ => Rel.start rn vn id
  | r + 1, h => (rel_all rn vn id hid r (by omega)).step (by omega) (hid r (by omega))

/-- the law's last loop -/
def ef (rn : Nat) (la : Nat → Int) : Nat → (Nat → Int) × (Nat → Int) → (Nat → Int) × (Nat → Int)
  | 0, s => s
  | v + 1, s => (upd (ef rn la v s).1 (la v).toNat ((rn + v : Nat) : Int), upd (ef rn la v s).2 (rn + v) (la v))

theorem ef_spec (rn : Nat) (la : Nat → Int) (s : (Nat → Int) × (Nat → Int)) : ∀ V, (∀ v, v < V → 0 ≤ la v) → (∀ u v, u < V → v < V → la u = la v → u = v) →
    (∀ v, v < V → (ef rn la V s).1 (la v).toNat = ((rn + v : Nat) : Int)) ∧ (∀ x : Nat, (∀ v, v < V → la v ≠ (x : Int)) → (ef rn la V s).1 x = s.1 x) ∧ (∀ v, v < V → (ef rn la V s).2 (rn + v) = la v) ∧ (∀ x, (∀ v, v < V → x ≠ rn + v) → (ef rn la V s).2 x = s.2 x)
  | 0, _, _ => ⟨fun v hv => by omega, fun x _ => rfl, fun v hv => by omega, fun x _ => rfl⟩
  | V + 1, h0, h1 => by
    obtain ⟨a, b, c, d⟩ := ef_spec rn la s V (fun v hv => h0 v (by omega)) (fun u v hu hv => h1 u v (by omega) (by omega))
    refine ⟨fun v hv => ?_, fun x hx => ?_, fun v hv => ?_, fun x hx => ?_⟩
    · show upd (ef rn la V s).1 (la V).toNat ((rn + V : Nat) : Int) (la v).toNat = _
      by_cases e : v = V
      · subst e; rw [upd_same]
      · have hv' : v < V := by omega
        have h2 := h0 v (by omega)
        have h3 := h0 V (by omega)
        rw [upd_ne _ _ (fun q => e (h1 v V (by omega) (by omega) (by omega)))]
        exact a v hv'
    · show upd (ef rn la V s).1 (la V).toNat ((rn + V : Nat) : Int) x = _
      have h3 := h0 V (by omega)
      have h4 := hx V (by omega)
      rw [upd_ne _ _ (by omega)]
      exact b x fun v hv => hx v (by omega)
    · show upd (ef rn la V s).2 (rn + V) (la V) (rn + v) = _
      by_cases e : v = V
      · subst e; rw [upd_same]
      · rw [upd_ne _ _ (by omega)]; exact c v (by omega)
    · show upd (ef rn la V s).2 (rn + V) (la V) x = _
      rw [upd_ne _ _ (hx V (by omega))]
      exact d x fun v hv => hx v (by omega)

/-- THE RINGS: as inserted, so as the law lays them -/
theorem rings_eq (rn vn : Nat) (id : Nat → Nat) (hid : ∀ r, r < rn → id r < vn) (hall : ∀ v, v < vn → ∃ r, r < rn ∧ id r = v) (x : Nat) (hx : x < rn + vn) :
    ((np rn id rn).1 x : Int) = (ef rn (er rn id rn).la vn ((er rn id rn).en, (er rn id rn).ep)).1 x ∧ ((np rn id rn).2 x : Int) = (ef rn (er rn id rn).la vn ((er rn id rn).en, (er rn id rn).ep)).2 x := by
  have h := rel_all rn vn id hid rn (Nat.le_refl _)
  have hp : ∀ v, v < vn → 0 ≤ (er rn id rn).la v := fun v hv => by
    obtain ⟨r, hr, e⟩ := hall v hv
    rw [← e]; exact h.used r hr
  have hi : ∀ u v, u < vn → v < vn → (er rn id rn).la u = (er rn id rn).la v → u = v := fun u v hu hv e => by
    obtain ⟨l, e1, _, e3, _⟩ := h.yes u hu (hp u hu)
    obtain ⟨m, f1, _, f3, _⟩ := h.yes v hv (hp v hv)
    have : l = m := by omega
    subst this
    exact e3.symm.trans f3
  obtain ⟨a, b, c, d⟩ := ef_spec rn (er rn id rn).la ((er rn id rn).en, (er rn id rn).ep) vn hp hi
  by_cases q : x < rn
  · obtain ⟨k1, k2⟩ := h.low x q
    constructor
    · by_cases e : ∃ v, v < vn ∧ (er rn id rn).la v = (x : Int)
      · obtain ⟨v, hv, e⟩ := e
        obtain ⟨l, e1, _, _, _, e5, _⟩ := h.yes v hv (hp v hv)
        have hl : l = x := by omega
        subst hl
        have := a v hv
        rw [e1] at this
        rw [e5]
        exact this.symm
      · rw [b x fun v hv e2 => e ⟨v, hv, e2⟩]
        exact k2 fun v hv e2 => e ⟨v, hv, e2⟩
    · rw [d x fun v hv => by omega]; exact k1
  · obtain ⟨v, rfl⟩ : ∃ v, x = rn + v := ⟨x - rn, by omega⟩
    have hv : v < vn := by omega
    obtain ⟨l, e1, e2, _, e4, _, e6⟩ := h.yes v hv (hp v hv)
    constructor
    · rw [b (rn + v) fun u hu e => ?_]
      · exact e6
      · obtain ⟨m, f1, f2, _⟩ := h.yes u hu (hp u hu)
        omega
    · rw [c v hv, e4, e1]
end Go.Proofs.Qxb6602948a

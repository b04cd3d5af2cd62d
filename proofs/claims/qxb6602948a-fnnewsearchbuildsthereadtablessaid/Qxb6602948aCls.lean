import Derived.Test.Qxb6602948aUf
import Derived.Test.Qxb6602948aGp
/- THE CLASSES, PLAINLY: union-find and the spreading give one list -/
namespace Go.Uf
open Go.Kx (upd upd_same upd_ne)
set_option linter.unusedVariables false

/-- t reads or writes y -/
def tf (rS rI wS wI : Nat → Int) (t y : Nat) : Prop :=
  (∃ k, k < (rS (t + 1) - rS t).toNat ∧ y = (rI ((rS t).toNat + k)).toNat) ∨ (∃ k, k < (wS (t + 1) - wS t).toNat ∧ y = (wI ((wS t).toNat + k)).toNat)

def Closed (tch : Nat → Nat → Prop) (P : Nat → Prop) : Prop := ∀ a b x, tch a x → tch b x → P a → P b

structure UI (s : St) (T tch : Nat → Nat → Prop) : Prop where
  sub : ∀ v x, T v x → tch v x
  yes : ∀ x, 0 ≤ s.first x → T (s.first x).toNat x ∧ ∀ v, T v x → s.rho v = s.rho (s.first x).toNat
  no : ∀ x, s.first x < 0 → ∀ v, ¬ T v x
  cl : ∀ P, Closed tch P → ∀ u v, s.rho u = s.rho v → P u → P v

theorem UI.start (tch : Nat → Nat → Prop) : UI st0 (fun _ _ => False) tch :=
  ⟨fun _ _ h => h.elim, fun x h => by simp [st0] at h, fun _ _ _ h => h, fun P _ u v h p => by have : u = v := h; rw [← this]; exact p⟩

theorem UI.congr {s : St} {T T' tch : Nat → Nat → Prop} (h : UI s T tch) (e : ∀ v x, T v x ↔ T' v x) : UI s T' tch := by
  have : T = T' := by funext v x; exact propext (e v x)
  rw [← this]; exact h

theorem joined_keep {ρ : Nat → Nat} {a b u v : Nat} (h : ρ u = ρ v) : joined ρ a b u = joined ρ a b v := by unfold joined; rw [h]

theorem UI.link {s : St} {T tch : Nat → Nat → Prop} (h : UI s T tch) {t x : Nat} (ht : tch t x) : UI (link t x s) (fun v y => T v y ∨ (v = t ∧ y = x)) tch := by
  unfold Uf.link
  by_cases hf : s.first x < 0
  · rw [if_pos hf]
    refine ⟨fun v y hv => ?_, fun y hy => ?_, fun y hy v hv => ?_, h.cl⟩
    · rcases hv with hv | ⟨rfl, rfl⟩
      · exact h.sub v y hv
      · exact ht
    · by_cases e : y = x
      · subst e
        simp only [upd_same, Int.toNat_natCast]
        refine ⟨.inr (by simp), fun v hv => ?_⟩
        rcases hv with hv | ⟨rfl, _⟩
        · exact absurd hv (h.no _ hf v)
        · rfl
      · simp only [upd_ne _ _ e] at hy ⊢
        obtain ⟨h1, h2⟩ := h.yes y hy
        refine ⟨.inl h1, fun v hv => ?_⟩
        rcases hv with hv | ⟨_, rfl⟩
        · exact h2 v hv
        · exact absurd rfl e
    · by_cases e : y = x
      · subst e; simp only [upd_same] at hy; omega
      · simp only [upd_ne _ _ e] at hy
        rcases hv with hv | ⟨_, rfl⟩
        · exact h.no y hy v hv
        · exact e rfl
  · rw [if_neg hf]
    obtain ⟨g1, g2⟩ := h.yes x (by omega)
    have hju : joined s.rho (s.rho t) (s.rho (s.first x).toNat) t = joined s.rho (s.rho t) (s.rho (s.first x).toNat) (s.first x).toNat := by
      unfold joined
      by_cases e : s.rho (s.first x).toNat = s.rho t
      · rw [if_pos rfl, if_pos e]
      · rw [if_pos rfl, if_neg e]
    refine ⟨fun v y hv => ?_, fun y hy => ?_, fun y hy v hv => ?_, fun P hP u v huv hu => ?_⟩
    · rcases hv with hv | ⟨rfl, rfl⟩
      · exact h.sub v y hv
      · exact ht
    · obtain ⟨h1, h2⟩ := h.yes y hy
      refine ⟨.inl h1, fun v hv => ?_⟩
      rcases hv with hv | ⟨rfl, rfl⟩
      · exact joined_keep (h2 v hv)
      · exact hju
    · rcases hv with hv | ⟨_, rfl⟩
      · exact h.no y hy v hv
      · exact hf hy
    · have hcl := h.cl P hP
      have hPtu : P t → P (s.first x).toNat := hP t _ x ht (h.sub _ _ g1)
      have hPut : P (s.first x).toNat → P t := hP _ t x (h.sub _ _ g1) ht
      simp only [joined] at huv
      by_cases e1 : s.rho u = s.rho t
      · by_cases e2 : s.rho v = s.rho t
        · exact hcl u v (e1.trans e2.symm) hu
        · rw [if_pos e1, if_neg e2] at huv
          exact hcl _ v huv (hPtu (hcl u t e1 hu))
      · by_cases e2 : s.rho v = s.rho t
        · rw [if_neg e1, if_pos e2] at huv
          exact hcl t v e2.symm (hPut (hcl u _ huv hu))
        · rw [if_neg e1, if_neg e2] at huv
          exact hcl u v huv hu

theorem UI.linkN {s : St} {T tch : Nat → Nat → Prop} (h : UI s T tch) (f : Nat → Nat) (t : Nat) : ∀ K, (∀ k, k < K → tch t (f k)) → UI (linkN f t K s) (fun v y => T v y ∨ (v = t ∧ ∃ k, k < K ∧ y = f k)) tch
  | 0, _ => h.congr fun v x => ⟨.inl, fun hx => by rcases hx with hx | ⟨_, k, hk, _⟩; exact hx; omega⟩
  | K + 1, hK => ((UI.linkN h f t K fun k hk => hK k (by omega)).link (hK K (by omega))).congr fun v x => by
    constructor
    · rintro ((hx | ⟨rfl, k, hk, rfl⟩) | ⟨rfl, rfl⟩)
      · exact .inl hx
      · exact .inr ⟨rfl, k, by omega, rfl⟩
      · exact .inr ⟨rfl, K, by omega, rfl⟩
    · rintro (hx | ⟨rfl, k, hk, rfl⟩)
      · exact .inl (.inl hx)
      · by_cases e : k = K
        · subst e; exact .inr ⟨rfl, rfl⟩
        · exact .inl (.inr ⟨rfl, k, by omega, rfl⟩)

theorem UI.txn {s : St} {T tch : Nat → Nat → Prop} (h : UI s T tch) {rS rI wS wI : Nat → Int} {t : Nat} (ht : ∀ y, tf rS rI wS wI t y → tch t y) : UI (txn rS rI wS wI t s) (fun v y => T v y ∨ (v = t ∧ tf rS rI wS wI t y)) tch := by
  unfold Uf.txn
  refine ((h.linkN _ t _ fun k hk => ht _ (.inl ⟨k, hk, rfl⟩)).linkN _ t _ fun k hk => ht _ (.inr ⟨k, hk, rfl⟩)).congr fun v x => ?_
  constructor
  · rintro ((hx | ⟨rfl, hk⟩) | ⟨rfl, hk⟩)
    · exact .inl hx
    · exact .inr ⟨rfl, .inl hk⟩
    · exact .inr ⟨rfl, .inr hk⟩
  · rintro (hx | ⟨rfl, hk | hk⟩)
    · exact .inl (.inl hx)
    · exact .inl (.inr ⟨rfl, hk⟩)
    · exact .inr ⟨rfl, hk⟩

def tc (rS rI wS wI : Nat → Int) (lo n v y : Nat) : Prop := lo ≤ v ∧ v < n ∧ tf rS rI wS wI v y

theorem UI.upTo (rS rI wS wI : Nat → Int) (lo n : Nat) : ∀ j, lo + j ≤ n → UI (upTo rS rI wS wI lo j) (tc rS rI wS wI lo (lo + j)) (tc rS rI wS wI lo n)
  | 0, _ => (UI.start _).congr fun v x => ⟨fun h => h.elim, fun h => by have := h.1; have := h.2.1; omega⟩
  | j + 1, hj => ((UI.upTo rS rI wS wI lo n j (by omega)).txn (t := lo + j) fun y hy => ⟨by omega, by omega, hy⟩).congr fun v x => by
    constructor
    · rintro (hx | ⟨rfl, hx⟩)
      · exact ⟨hx.1, by have := hx.2.1; omega, hx.2.2⟩
      · exact ⟨by omega, by omega, hx⟩
    · rintro ⟨h1, h2, h3⟩
      by_cases e : v = lo + j
      · subst e; exact .inr ⟨rfl, h3⟩
      · exact .inl ⟨h1, by omega, h3⟩

/-- the final roots -/
def kap (rS rI wS wI : Nat → Int) (lo n : Nat) : Nat → Nat := (upTo rS rI wS wI lo (n - lo)).rho

theorem kap_share (rS rI wS wI : Nat → Int) (lo n : Nat) {u v x : Nat} (hu : tc rS rI wS wI lo n u x) (hv : tc rS rI wS wI lo n v x) : kap rS rI wS wI lo n u = kap rS rI wS wI lo n v := by
  have hlo : lo ≤ n := by have := hu.1; have := hu.2.1; omega
  have h := UI.upTo rS rI wS wI lo n (n - lo) (by omega)
  rw [show lo + (n - lo) = n by omega] at h
  by_cases hf : (Uf.upTo rS rI wS wI lo (n - lo)).first x < 0
  · exact absurd hu (h.no x hf u)
  · obtain ⟨_, h2⟩ := h.yes x (by omega)
    exact (h2 u hu).trans (h2 v hv).symm

theorem kap_conn (rS rI wS wI : Nat → Int) (lo n : Nat) (P : Nat → Prop) (hP : Closed (tc rS rI wS wI lo n) P) {u v : Nat} (h : kap rS rI wS wI lo n u = kap rS rI wS wI lo n v) (hu : P u) : P v := by
  by_cases hlo : lo ≤ n
  · have hh := UI.upTo rS rI wS wI lo n (n - lo) (by omega)
    exact hh.cl P hP u v h hu
  · unfold kap at h
    rw [show n - lo = 0 by omega] at h
    have : u = v := h
    rw [← this]; exact hu

/-! ### the classes of a function -/
def old (κ : Nat → Nat) (lo t u : Nat) : Prop := ∃ s, lo ≤ s ∧ s < t ∧ κ s = κ u
def oldB (κ : Nat → Nat) (lo t u : Nat) : Bool := (List.range t).any fun s => decide (lo ≤ s) && decide (κ s = κ u)
theorem oldB_iff {κ : Nat → Nat} {lo t u : Nat} : oldB κ lo t u = true ↔ old κ lo t u := by
  unfold oldB old
  rw [List.any_eq_true]
  constructor
  · rintro ⟨s, hs, h⟩
    simp at hs h
    exact ⟨s, h.1, hs, h.2⟩
  · rintro ⟨s, h1, h2, h3⟩
    exact ⟨s, by simpa using h2, by simp [h1, h3]⟩
def firsts (κ : Nat → Nat) (lo : Nat) : Nat → List Nat
  | 0 => []
  | j + 1 => firsts κ lo j ++ (if oldB κ lo (lo + j) (lo + j) = true then [] else [lo + j])
theorem firsts_old {κ : Nat → Nat} {lo j : Nat} (h : old κ lo (lo + j) (lo + j)) : firsts κ lo (j + 1) = firsts κ lo j := by
  simp only [firsts]
  rw [if_pos (oldB_iff.2 h), List.append_nil]
theorem firsts_new {κ : Nat → Nat} {lo j : Nat} (h : ¬ old κ lo (lo + j) (lo + j)) : firsts κ lo (j + 1) = firsts κ lo j ++ [lo + j] := by
  simp only [firsts]
  rw [if_neg (fun e => h (oldB_iff.1 e))]
def clsJ (κ : Nat → Nat) (lo a : Nat) : Nat → List Nat
  | 0 => []
  | j + 1 => clsJ κ lo a j ++ (if κ (lo + j) = a then [lo + j] else [])

theorem mem_firsts {κ : Nat → Nat} {lo : Nat} : ∀ {j t : Nat}, t ∈ firsts κ lo j → lo ≤ t ∧ t < lo + j ∧ ¬ old κ lo t t
  | 0, t, h => by simp [firsts] at h
  | j + 1, t, h => by
    by_cases ho : old κ lo (lo + j) (lo + j)
    · rw [firsts_old ho] at h
      have := mem_firsts h
      exact ⟨this.1, by omega, this.2.2⟩
    · rw [firsts_new ho, List.mem_append] at h
      rcases h with h | h
      · have := mem_firsts h
        exact ⟨this.1, by omega, this.2.2⟩
      · simp at h
        subst h
        exact ⟨by omega, by omega, ho⟩

/-- each value has its first -/
theorem first_of {κ : Nat → Nat} {lo : Nat} : ∀ {j s : Nat}, lo ≤ s → s < lo + j → ∃ t, t ∈ firsts κ lo j ∧ κ t = κ s
  | 0, s, h1, h2 => by omega
  | j + 1, s, h1, h2 => by
    have up : ∀ t, t ∈ firsts κ lo j → t ∈ firsts κ lo (j + 1) := fun t ht => by simp only [firsts, List.mem_append]; exact .inl ht
    by_cases e : s = lo + j
    · subst e
      by_cases ho : old κ lo (lo + j) (lo + j)
      · obtain ⟨q, q1, q2, q3⟩ := ho
        obtain ⟨t, ht, hk⟩ := first_of (κ := κ) (j := j) q1 q2
        exact ⟨t, up t ht, hk.trans q3⟩
      · exact ⟨lo + j, by rw [firsts_new ho]; simp, rfl⟩
    · obtain ⟨t, ht, hk⟩ := first_of (κ := κ) (j := j) h1 (by omega)
      exact ⟨t, up t ht, hk⟩

theorem firsts_apart {κ : Nat → Nat} {lo : Nat} : ∀ j, (firsts κ lo j).Pairwise (fun a b => κ a ≠ κ b)
  | 0 => by simp [firsts]
  | j + 1 => by
    by_cases ho : old κ lo (lo + j) (lo + j)
    · rw [firsts_old ho]; exact firsts_apart j
    · rw [firsts_new ho, List.pairwise_append]
      refine ⟨firsts_apart j, by simp, fun a ha b hb => ?_⟩
      simp at hb
      subst hb
      intro e
      have := mem_firsts ha
      exact ho ⟨a, this.1, this.2.1, e⟩

theorem mem_clsJ {κ : Nat → Nat} {lo a u : Nat} : ∀ {j : Nat}, u ∈ clsJ κ lo a j ↔ lo ≤ u ∧ u < lo + j ∧ κ u = a
  | 0 => by simp [clsJ]; omega
  | j + 1 => by
    simp only [clsJ, List.mem_append, mem_clsJ (j := j)]
    by_cases e : κ (lo + j) = a
    · rw [if_pos e]
      simp
      constructor
      · rintro (⟨h1, h2, h3⟩ | rfl)
        · exact ⟨h1, by omega, h3⟩
        · exact ⟨by omega, by omega, e⟩
      · rintro ⟨h1, h2, h3⟩
        by_cases q : u = lo + j
        · exact .inr q
        · exact .inl ⟨h1, by omega, h3⟩
    · rw [if_neg e]
      simp only [List.not_mem_nil, or_false]
      constructor
      · rintro ⟨h1, h2, h3⟩; exact ⟨h1, by omega, h3⟩
      · rintro ⟨h1, h2, h3⟩
        refine ⟨h1, ?_, h3⟩
        by_cases q : u = lo + j
        · subst q; exact absurd h3 e
        · omega

theorem clsJ_sorted (κ : Nat → Nat) (lo a : Nat) : ∀ j, (clsJ κ lo a j).Pairwise (· < ·)
  | 0 => by simp [clsJ]
  | j + 1 => by
    simp only [clsJ]
    rw [List.pairwise_append]
    refine ⟨clsJ_sorted κ lo a j, by split <;> simp, fun x hx y hy => ?_⟩
    have := mem_clsJ.1 hx
    split at hy
    · simp at hy; omega
    · simp at hy

theorem put_hit (r u : Nat) (κ : Nat → Nat) (C : Nat → List Nat) : ∀ (L : List Nat), L.Pairwise (fun a b => κ a ≠ κ b) → (∃ t, t ∈ L ∧ κ t = r) → put r u (L.map fun t => (κ t, C t)) = L.map fun t => (κ t, C t ++ (if r = κ t then [u] else []))
  | [], _, h => by obtain ⟨t, ht, _⟩ := h; simp at ht
  | t :: L, hp, h => by
    rw [List.pairwise_cons] at hp
    simp only [List.map_cons, put]
    by_cases e : κ t = r
    · rw [if_pos e, if_pos e.symm]
      congr 1
      apply List.map_congr_left
      intro s hs
      rw [if_neg (fun e2 => hp.1 s hs (e.trans e2)), List.append_nil]
    · rw [if_neg e, if_neg (fun e2 => e e2.symm), List.append_nil]
      congr 1
      refine put_hit r u κ C L hp.2 ?_
      obtain ⟨s, hs, hk⟩ := h
      simp at hs
      rcases hs with rfl | hs
      · exact absurd hk e
      · exact ⟨s, hs, hk⟩

theorem put_miss (r u : Nat) (κ : Nat → Nat) (C : Nat → List Nat) : ∀ (L : List Nat), (∀ t, t ∈ L → κ t ≠ r) → put r u (L.map fun t => (κ t, C t)) = (L.map fun t => (κ t, C t)) ++ [(r, [u])]
  | [], _ => rfl
  | t :: L, h => by
    simp only [List.map_cons, put]
    rw [if_neg (h t (by simp)), put_miss r u κ C L (fun s hs => h s (by simp [hs])), List.cons_append]

theorem clsJ_nil {κ : Nat → Nat} {lo a j : Nat} (h : ∀ s, lo ≤ s → s < lo + j → κ s ≠ a) : clsJ κ lo a j = [] := by
  apply List.eq_nil_iff_forall_not_mem.2
  intro u hu
  have := mem_clsJ.1 hu
  exact h u this.1 this.2.1 this.2.2

theorem group_eq (κ : Nat → Nat) (lo : Nat) : ∀ j, group κ lo j = (firsts κ lo j).map fun t => (κ t, clsJ κ lo (κ t) j)
  | 0 => rfl
  | j + 1 => by
    show put (κ (lo + j)) (lo + j) (group κ lo j) = _
    rw [group_eq κ lo j]
    by_cases ho : old κ lo (lo + j) (lo + j)
    · rw [firsts_old ho]
      obtain ⟨s, s1, s2, s3⟩ := ho
      obtain ⟨t, ht, hk⟩ := first_of (κ := κ) s1 s2
      rw [put_hit _ _ κ (fun t => clsJ κ lo (κ t) j) _ (firsts_apart j) ⟨t, ht, hk.trans s3⟩]
      rfl
    · rw [firsts_new ho, put_miss _ _ κ (fun t => clsJ κ lo (κ t) j) _ (fun t ht e => by have := mem_firsts ht; exact ho ⟨t, this.1, this.2.1, e⟩), List.map_append]
      congr 1
      · apply List.map_congr_left
        intro t ht
        have := mem_firsts ht
        simp only [clsJ]
        rw [if_neg (fun e => ho ⟨t, this.1, this.2.1, e.symm⟩), List.append_nil]
      · simp only [List.map_cons, List.map_nil, clsJ, if_true]
        rw [clsJ_nil (fun s s1 s2 e => ho ⟨s, s1, s2, e⟩), List.nil_append]

theorem comps_eq (rS rI wS wI : Nat → Int) (lo n : Nat) : comps rS rI wS wI lo n = (firsts (kap rS rI wS wI lo n) lo (n - lo)).map fun t => clsJ (kap rS rI wS wI lo n) lo (kap rS rI wS wI lo n t) (n - lo) := by
  unfold comps
  rw [show (upTo rS rI wS wI lo (n - lo)).rho = kap rS rI wS wI lo n from rfl, group_eq, List.map_map]
  rfl

/-- two lists, both in order, of the same members -/
theorem sorted_ext : ∀ {l m : List Nat}, l.Pairwise (· < ·) → m.Pairwise (· < ·) → (∀ u, u ∈ l ↔ u ∈ m) → l = m
  | [], [], _, _, _ => rfl
  | [], b :: m, _, _, h => by have := (h b).2 (by simp); simp at this
  | a :: l, [], _, _, h => by have := (h a).1 (by simp); simp at this
  | a :: l, b :: m, hl, hm, h => by
    rw [List.pairwise_cons] at hl hm
    have hab : a = b := by
      have h1 := (h a).1 (by simp)
      have h2 := (h b).2 (by simp)
      simp at h1 h2
      rcases h1 with h1 | h1
      · exact h1
      · rcases h2 with h2 | h2
        · exact h2.symm
        · have := hl.1 b h2; have := hm.1 a h1; omega
    subst hab
    congr 1
    refine sorted_ext hl.2 hm.2 fun u => ?_
    have hu := h u
    simp at hu
    constructor
    · intro q
      rcases hu.1 (.inr q) with e | e
      · have := hl.1 u q; omega
      · exact e
    · intro q
      rcases hu.2 (.inr q) with e | e
      · have := hm.1 u q; omega
      · exact e

/-- so many different numbers below n -/
theorem nodup_len : ∀ (n : Nat) (l : List Nat), l.Nodup → (∀ u, u ∈ l → u < n) → l.length ≤ n
  | 0, l, _, h => by
    cases l with
    | nil => simp
    | cons a l => have := h a (by simp); omega
  | n + 1, l, hd, h => by
    have h1 := nodup_len n (l.filter (· ≠ n)) (hd.filter _) (fun u hu => by
      simp at hu
      have := h u hu.1
      omega)
    have h2 : l.length ≤ (l.filter (· ≠ n)).length + 1 := by
      clear h1 h
      induction l with
      | nil => simp
      | cons a l ih =>
        rw [List.nodup_cons] at hd
        by_cases e : a = n
        · subst e
          have : l.filter (· ≠ a) = l := List.filter_eq_self.2 fun x hx => by simp; intro e; subst e; exact hd.1 hx
          rw [List.filter_cons_of_neg (by simp), this]
          simp
        · rw [List.filter_cons_of_pos (by simp [e])]
          have := ih hd.2
          simp at this ⊢
          omega
    omega
end Go.Uf

import Derived.Test.Qxb6602948aCls
import Derived.Test.Qxb6602948aSpr
/- THE SPREADING, PLAINLY -/
namespace Go.Uf
open Go.Kx (upd upd_same upd_ne)
open Go.Proofs.Qxb6602948a
set_option linter.unusedVariables false

/-! ### the users of each item -/
abbrev Grp := List (Nat × List Nat)
def addN (f : Nat → Nat) (t : Nat) : Nat → Grp → Grp
  | 0, g => g
  | k + 1, g => addTo (addN f t k g) (f k) t
def utxn (rS rI wS wI : Nat → Int) (t : Nat) (g : Grp) : Grp :=
  addN (fun k => (wI ((wS t).toNat + k)).toNat) t (wS (t + 1) - wS t).toNat (addN (fun k => (rI ((rS t).toNat + k)).toNat) t (rS (t + 1) - rS t).toNat g)
def uUp (rS rI wS wI : Nat → Int) (items lo : Nat) : Nat → Grp
  | 0 => List.replicate items (0, [])
  | j + 1 => utxn rS rI wS wI (lo + j) (uUp rS rI wS wI items lo j)

theorem addN_length (f : Nat → Nat) (t : Nat) (g : Grp) : ∀ k, (addN f t k g).length = g.length
  | 0 => rfl
  | k + 1 => by show (addTo _ _ _).length = _; rw [addTo_length, addN_length f t g k]

theorem addN_mem {f : Nat → Nat} {t : Nat} {g : Grp} : ∀ K, (∀ k, k < K → f k < g.length) → ∀ u x, u ∈ gl (addN f t K g) x ↔ u ∈ gl g x ∨ (u = t ∧ ∃ k, k < K ∧ x = f k)
  | 0, _, u, x => ⟨.inl, fun h => by rcases h with h | ⟨_, k, hk, _⟩; exact h; omega⟩
  | K + 1, hK, u, x => by
    have ih := addN_mem (t := t) K (fun k hk => hK k (by omega)) u x
    show u ∈ gl (addTo (addN f t K g) (f K) t) x ↔ _
    by_cases e : x = f K
    · subst e
      rw [gl_addTo_same (by rw [addN_length]; exact hK K (by omega)), List.mem_append, ih]
      simp only [List.mem_singleton]
      constructor
      · rintro ((h | ⟨h, k, hk, e⟩) | h)
        · exact .inl h
        · exact .inr ⟨h, k, by omega, e⟩
        · exact .inr ⟨h, K, by omega, rfl⟩
      · rintro (h | ⟨h, _⟩)
        · exact .inl (.inl h)
        · exact .inr h
    · rw [gl_addTo_ne e, ih]
      constructor
      · rintro (h | ⟨h, k, hk, e⟩)
        · exact .inl h
        · exact .inr ⟨h, k, by omega, e⟩
      · rintro (h | ⟨h, k, hk, e2⟩)
        · exact .inl h
        · by_cases q : k = K
          · subst q; exact absurd e2 e
          · exact .inr ⟨h, k, by omega, e2⟩

theorem addN_len {f : Nat → Nat} {t : Nat} {g : Grp} (x : Nat) : ∀ K, (∀ k, k < K → f k < g.length) → (gl (addN f t K g) x).length ≤ (gl g x).length + K
  | 0, _ => Nat.le_refl _
  | K + 1, hK => by
    have ih := addN_len (t := t) x K (fun k hk => hK k (by omega))
    show (gl (addTo (addN f t K g) (f K) t) x).length ≤ _
    by_cases e : x = f K
    · subst e
      rw [gl_addTo_same (by rw [addN_length]; exact hK K (by omega)), List.length_append]
      simp; omega
    · rw [gl_addTo_ne e]; omega

theorem uUp_length (rS rI wS wI : Nat → Int) (items lo : Nat) : ∀ j, (uUp rS rI wS wI items lo j).length = items
  | 0 => by simp [uUp]
  | j + 1 => by show (utxn _ _ _ _ _ _).length = _; unfold utxn; rw [addN_length, addN_length, uUp_length rS rI wS wI items lo j]

theorem gl_replicate (items x : Nat) : gl (List.replicate items (0, [])) x = [] := by
  unfold gl
  by_cases h : x < items <;> simp [List.getD, h]

theorem uUp_mem {rS rI wS wI : Nat → Int} {items lo n : Nat} (hb : ∀ t, t < n → ∀ y, tf rS rI wS wI t y → y < items) : ∀ j, lo + j ≤ n → ∀ u x, u ∈ gl (uUp rS rI wS wI items lo j) x ↔ tc rS rI wS wI lo (lo + j) u x
  | 0, _, u, x => by
    show u ∈ gl (List.replicate items (0, [])) x ↔ _
    rw [gl_replicate]
    simp [tc]; omega
  | j + 1, hj, u, x => by
    have ih := uUp_mem (lo := lo) hb j (by omega) u x
    have hl := uUp_length rS rI wS wI items lo j
    show u ∈ gl (utxn rS rI wS wI (lo + j) (uUp rS rI wS wI items lo j)) x ↔ _
    unfold utxn
    rw [addN_mem _ (fun k hk => by rw [addN_length, hl]; exact hb (lo + j) (by omega) _ (.inr ⟨k, hk, rfl⟩)), addN_mem _ (fun k hk => by rw [hl]; exact hb (lo + j) (by omega) _ (.inl ⟨k, hk, rfl⟩)), ih]
    constructor
    · rintro ((⟨h1, h2, h3⟩ | ⟨rfl, h⟩) | ⟨rfl, h⟩)
      · exact ⟨h1, by omega, h3⟩
      · exact ⟨by omega, by omega, .inl h⟩
      · exact ⟨by omega, by omega, .inr h⟩
    · rintro ⟨h1, h2, h3⟩
      by_cases e : u = lo + j
      · subst e
        rcases h3 with h | h
        · exact .inl (.inr ⟨rfl, h⟩)
        · exact .inr ⟨rfl, h⟩
      · exact .inl (.inl ⟨h1, by omega, h3⟩)

/-! ### the search -/
structure Ctx (lo n : Nat) (ux : Nat → List Nat) (κ : Nat → Nat) : Prop where
  mem : ∀ x u, u ∈ ux x → lo ≤ u ∧ u < n
  share : ∀ u v x, u ∈ ux x → v ∈ ux x → κ u = κ v
  conn : ∀ P : Nat → Prop, (∀ a b x, a ∈ ux x → b ∈ ux x → P a → P b) → ∀ u v, κ u = κ v → P u → P v

structure OI (lo n : Nat) (ux : Nat → List Nat) (κ : Nat → Nat) (t : Nat) (cp : Nat → Int) (sn : Nat → Bool) : Prop where
  cpI : ∀ u, lo ≤ u → u < n → (0 ≤ cp u ↔ old κ lo t u)
  snI : ∀ x, sn x = true → ∀ u, u ∈ ux x → 0 ≤ cp u

structure BI (lo n : Nat) (ux : Nat → List Nat) (κ : Nat → Nat) (t : Nat) (cp : Nat → Int) (sn : Nat → Bool) (ms : List Nat) : Prop where
  nd : ms.Nodup
  mem : ∀ m, m ∈ ms → lo ≤ m ∧ m < n ∧ κ m = κ t
  tin : t ∈ ms
  cpI : ∀ u, lo ≤ u → u < n → (0 ≤ cp u ↔ old κ lo t u ∨ u ∈ ms)
  snI : ∀ x, sn x = true → ∀ u, u ∈ ux x → 0 ≤ cp u

section
variable {lo n : Nat} {ux : Nat → List Nat} {κ : Nat → Nat} {t : Nat} {cp : Nat → Int} {sn : Nat → Bool} {ms : List Nat}

theorem OI.start (lo n : Nat) (ux : Nat → List Nat) (κ : Nat → Nat) : OI lo n ux κ lo (fun _ => -1) (fun _ => false) :=
  ⟨fun u _ _ => by simp [old]; intro s h1 h2; omega, fun x h => by simp at h⟩

theorem OI.begin (h : OI lo n ux κ t cp sn) (ht : lo ≤ t) (htn : t < n) (hneg : cp t < 0) (c : Nat) : BI lo n ux κ t (upd cp t (c : Int)) sn [t] := by
  refine ⟨by simp, fun m hm => by simp at hm; subst hm; exact ⟨ht, htn, rfl⟩, by simp, fun u h1 h2 => ?_, fun x hx u hu => ?_⟩
  · by_cases e : u = t
    · subst e; rw [upd_same]; simp
    · rw [upd_ne _ _ e, h.cpI u h1 h2]; simp [e]
  · by_cases e : u = t
    · subst e; rw [upd_same]; omega
    · rw [upd_ne _ _ e]; exact h.snI x hx u hu

theorem BI.sp1 (h : BI lo n ux κ t cp sn ms) {u c : Nat} (h1 : lo ≤ u) (h2 : u < n) (hk : κ u = κ t) : BI lo n ux κ t (sp1 (c : Int) u (cp, ms)).1 sn (sp1 (c : Int) u (cp, ms)).2 ∧ 0 ≤ (sp1 (c : Int) u (cp, ms)).1 u ∧ (∀ v, 0 ≤ cp v → 0 ≤ (sp1 (c : Int) u (cp, ms)).1 v) ∧ ∃ l, (sp1 (c : Int) u (cp, ms)).2 = ms ++ l := by
  unfold Go.Proofs.Qxb6602948a.sp1
  simp only
  by_cases hneg : cp u < 0
  · rw [if_pos hneg]
    simp only
    have hno : u ∉ ms := fun hm => by have := (h.cpI u h1 h2).2 (.inr hm); omega
    have mono : ∀ v, 0 ≤ cp v → 0 ≤ upd cp u (c : Int) v := fun v hv => by
      by_cases e : v = u
      · subst e; omega
      · rw [upd_ne _ _ e]; exact hv
    refine ⟨⟨?_, ?_, ?_, ?_, ?_⟩, by rw [upd_same]; omega, mono, [u], rfl⟩
    · rw [List.nodup_append]
      refine ⟨h.nd, by simp, fun a ha b hb => ?_⟩
      simp at hb
      subst hb
      intro e
      subst e
      exact hno ha
    · intro m hm
      rw [List.mem_append] at hm
      rcases hm with hm | hm
      · exact h.mem m hm
      · simp at hm; subst hm; exact ⟨h1, h2, hk⟩
    · rw [List.mem_append]; exact .inl h.tin
    · intro v v1 v2
      by_cases e : v = u
      · subst e; rw [upd_same]; simp
      · rw [upd_ne _ _ e, h.cpI v v1 v2]; simp [e]
    · intro x hx v hv
      exact mono v (h.snI x hx v hv)
  · rw [if_neg hneg]
    exact ⟨h, by show 0 ≤ cp u; omega, fun v hv => hv, [], by simp⟩

theorem BI.spN (h : BI lo n ux κ t cp sn ms) (f : Nat → Nat) (c : Nat) : ∀ K, (∀ i, i < K → lo ≤ f i ∧ f i < n ∧ κ (f i) = κ t) → BI lo n ux κ t (spN f (c : Int) K (cp, ms)).1 sn (spN f (c : Int) K (cp, ms)).2 ∧ (∀ i, i < K → 0 ≤ (spN f (c : Int) K (cp, ms)).1 (f i)) ∧ ∃ l, (spN f (c : Int) K (cp, ms)).2 = ms ++ l
  | 0, _ => ⟨h, fun i hi => by omega, [], by simp [Go.Proofs.Qxb6602948a.spN]⟩
  | K + 1, hK => by
    obtain ⟨ih1, ih2, l, ih3⟩ := BI.spN h f c K (fun i hi => hK i (by omega))
    obtain ⟨k1, k2, k3⟩ := hK K (by omega)
    obtain ⟨j1, j2, j3, l', j4⟩ := ih1.sp1 (c := c) k1 k2 k3
    refine ⟨j1, fun i hi => ?_, l ++ l', ?_⟩
    · by_cases e : i = K
      · subst e; exact j2
      · exact j3 _ (ih2 i (by omega))
    · show (Go.Proofs.Qxb6602948a.sp1 (c : Int) (f K) (Go.Proofs.Qxb6602948a.spN f (c : Int) K (cp, ms))).2 = _
      rw [← List.append_assoc, ← ih3]
      exact j4

/-- one item is spread -/
theorem BI.item (C : Ctx lo n ux κ) (h : BI lo n ux κ t cp sn ms) {m x : Nat} (hm : m ∈ ms) (hx : m ∈ ux x) (c : Nat) :
    BI lo n ux κ t (Go.Proofs.Qxb6602948a.spN (fun i => (ux x).getD i 0) (c : Int) (ux x).length (cp, ms)).1 (upd sn x true) (Go.Proofs.Qxb6602948a.spN (fun i => (ux x).getD i 0) (c : Int) (ux x).length (cp, ms)).2 ∧ ∃ l, (Go.Proofs.Qxb6602948a.spN (fun i => (ux x).getD i 0) (c : Int) (ux x).length (cp, ms)).2 = ms ++ l := by
  have hin : ∀ i, i < (ux x).length → (ux x).getD i 0 ∈ ux x := fun i hi => by
    have e : (ux x).getD i 0 = (ux x)[i] := by simp [List.getD, hi]
    rw [e]; exact List.getElem_mem hi
  obtain ⟨h1, h2, l, h3⟩ := h.spN (fun i => (ux x).getD i 0) c (ux x).length (fun i hi => by
    have := C.mem x _ (hin i hi)
    exact ⟨this.1, this.2, (C.share _ _ x (hin i hi) hx).trans (h.mem m hm).2.2⟩)
  refine ⟨⟨h1.nd, h1.mem, h1.tin, h1.cpI, fun y hy u hu => ?_⟩, l, h3⟩
  by_cases e : y = x
  · subst e
    obtain ⟨i, hi, rfl⟩ := List.getElem_of_mem hu
    have := h2 i hi
    simpa [List.getD, hi] using this
  · rw [upd_ne _ _ e] at hy
    exact h1.snI y hy u hu

/-- the items of the first I members have been met -/
def Done (ux : Nat → List Nat) (sn : Nat → Bool) (ms : List Nat) (I : Nat) : Prop := ∀ i, i < I → ∀ x, ms.getD i 0 ∈ ux x → sn x = true

theorem Done.more {sn' : Nat → Bool} {ms' l : List Nat} {I : Nat} (h : Done ux sn ms I) (hI : I ≤ ms.length) (hs : ∀ x, sn x = true → sn' x = true) (e : ms' = ms ++ l) : Done ux sn' ms' I := fun i hi x hx => by
  subst e
  have e2 : (ms ++ l).getD i 0 = ms.getD i 0 := by
    have : i < ms.length := by omega
    simp [List.getD, List.getElem?_append, this]
  rw [e2] at hx
  exact hs x (h i hi x hx)

theorem BI.all (C : Ctx lo n ux κ) (h : BI lo n ux κ t cp sn ms) (hd : Done ux sn ms ms.length) (hno : ¬ old κ lo t t) (v : Nat) (h1 : lo ≤ v) (h2 : v < n) : v ∈ ms ↔ κ v = κ t := by
  refine ⟨fun hv => (h.mem v hv).2.2, fun hv => ?_⟩
  refine C.conn (fun u => u ∈ ms) (fun a b x ha hb hP => ?_) t v hv.symm h.tin
  obtain ⟨i, hi, rfl⟩ := List.getElem_of_mem hP
  have hs := hd i hi x (by simpa [List.getD, hi] using ha)
  have hc := h.snI x hs b hb
  have hb2 := C.mem x b hb
  rcases (h.cpI b hb2.1 hb2.2).1 hc with ho | hm
  · exfalso
    obtain ⟨s, s1, s2, s3⟩ := ho
    exact hno ⟨s, s1, s2, s3.trans ((C.share _ _ x hb ha).trans (h.mem _ hP).2.2)⟩
  · exact hm

theorem OI.next (C : Ctx lo n ux κ) (h : BI lo n ux κ t cp sn ms) (hd : Done ux sn ms ms.length) (hno : ¬ old κ lo t t) (ht : lo ≤ t) : OI lo n ux κ (t + 1) cp sn := by
  refine ⟨fun u h1 h2 => ?_, h.snI⟩
  rw [h.cpI u h1 h2, h.all C hd hno u h1 h2]
  constructor
  · rintro (⟨s, s1, s2, s3⟩ | e)
    · exact ⟨s, s1, by omega, s3⟩
    · exact ⟨t, ht, by omega, e.symm⟩
  · rintro ⟨s, s1, s2, s3⟩
    by_cases e : s = t
    · subst e; exact .inr s3.symm
    · exact .inl ⟨s, s1, by omega, s3⟩

theorem OI.skip (h : OI lo n ux κ t cp sn) (ht : lo ≤ t) (htn : t < n) (hc : 0 ≤ cp t) : OI lo n ux κ (t + 1) cp sn := by
  have ho := (h.cpI t ht htn).1 hc
  refine ⟨fun u h1 h2 => ?_, h.snI⟩
  rw [h.cpI u h1 h2]
  constructor
  · rintro ⟨s, s1, s2, s3⟩; exact ⟨s, s1, by omega, s3⟩
  · rintro ⟨s, s1, s2, s3⟩
    by_cases e : s = t
    · subst e
      obtain ⟨q, q1, q2, q3⟩ := ho
      exact ⟨q, q1, q2, q3.trans s3⟩
    · exact ⟨s, s1, by omega, s3⟩

theorem BI.len (h : BI lo n ux κ t cp sn ms) : ms.length ≤ n := nodup_len n ms h.nd (fun u hu => (h.mem u hu).2.1)

/-- the members in order -/
theorem BI.sorted (C : Ctx lo n ux κ) (h : BI lo n ux κ t cp sn ms) (hd : Done ux sn ms ms.length) (hno : ¬ old κ lo t t) (hlo : lo ≤ n) {s : Nat → Nat} (hs : Shuf (fun i => ms.getD i 0) s ms.length) (ho : Srt s ms.length) :
    (List.range ms.length).map s = clsJ κ lo (κ t) (n - lo) := by
  have inj := hs.inj (fun i j hi hj e => by
    simp [List.getD, hi, hj] at e
    have hp := List.pairwise_iff_getElem.1 h.nd
    rcases Nat.lt_trichotomy i j with q | q | q
    · exact absurd e (hp i j hi hj q)
    · exact q
    · exact absurd e.symm (hp j i hj hi q))
  refine sorted_ext ?_ (clsJ_sorted _ _ _ _) fun u => ?_
  · rw [List.pairwise_map]
    refine List.Pairwise.imp_of_mem ?_ (List.pairwise_lt_range (n := ms.length))
    intro a b ha hb hab
    have ha' := List.mem_range.1 ha
    have hb' := List.mem_range.1 hb
    have h1 := ho a b hab hb'
    have h2 : s a ≠ s b := fun e => by have := inj a b ha' hb' e; omega
    omega
  · rw [mem_clsJ, show lo + (n - lo) = n by omega]
    constructor
    · intro hu
      rw [List.mem_map] at hu
      obtain ⟨i, hi, rfl⟩ := hu
      obtain ⟨j, hj, e⟩ := hs.to i (List.mem_range.1 hi)
      rw [e]
      have hm : ms.getD j 0 ∈ ms := by
        have e : ms.getD j 0 = ms[j] := by simp [List.getD, hj]
        rw [e]; exact List.getElem_mem hj
      exact h.mem _ hm
    · rintro ⟨h1, h2, h3⟩
      have hm := (h.all C hd hno u h1 h2).2 h3
      obtain ⟨j, hj, rfl⟩ := List.getElem_of_mem hm
      obtain ⟨i, hi, e⟩ := hs.from' j hj
      rw [List.mem_map]
      exact ⟨i, List.mem_range.2 hi, by rw [e]; simp [List.getD, hj]⟩
end

/-- the context that the users give -/
theorem ctx_of {rS rI wS wI : Nat → Int} {items lo n : Nat} (hlo : lo ≤ n) (hb : ∀ t, t < n → ∀ y, tf rS rI wS wI t y → y < items) : Ctx lo n (fun x => gl (uUp rS rI wS wI items lo (n - lo)) x) (kap rS rI wS wI lo n) := by
  have hm := uUp_mem (lo := lo) hb (n - lo) (by omega)
  rw [show lo + (n - lo) = n by omega] at hm
  refine ⟨fun x u hu => ?_, fun u v x hu hv => ?_, fun P hP u v huv hu => ?_⟩
  · have := (hm u x).1 hu; exact ⟨this.1, this.2.1⟩
  · exact kap_share rS rI wS wI lo n ((hm u x).1 hu) ((hm v x).1 hv)
  · exact kap_conn rS rI wS wI lo n P (fun a b x ha hb => hP a b x ((hm a x).2 ha) ((hm b x).2 hb)) huv hu
end Go.Uf

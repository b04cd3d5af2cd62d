import Derived.Test.Qxb6602948aKv
import Derived.Test.Qxb6602948aComp
/- THE NUMBERING OF THE VERSIONS, PLAINLY; the rows of numbers in memory -/
namespace Go.Proofs.Qxb6602948a
open Go.RowKit Go.Kx Go.Maps
set_option linter.unusedVariables false

section
variable (p : Nat → Int × Int)
def seenB (r : Nat) : Bool := (List.range r).any fun j => decide (p j = p r)
theorem seenB_iff (r : Nat) : seenB p r = true ↔ ∃ j, j < r ∧ p j = p r := by
  unfold seenB
  rw [List.any_eq_true]
  constructor
  · rintro ⟨j, hj, h⟩; exact ⟨j, by simpa using hj, by simpa using h⟩
  · rintro ⟨j, hj, h⟩; exact ⟨j, by simpa using hj, by simpa using h⟩
/-- the reads at which a version comes up first -/
def fo : Nat → List Nat
  | 0 => []
  | r + 1 => if seenB p r = true then fo r else fo r ++ [r]
theorem fo_old {r : Nat} (h : ∃ j, j < r ∧ p j = p r) : fo p (r + 1) = fo p r := by show (if _ then _ else _) = _; rw [if_pos ((seenB_iff p r).2 h)]
theorem fo_new {r : Nat} (h : ¬ ∃ j, j < r ∧ p j = p r) : fo p (r + 1) = fo p r ++ [r] := by show (if _ then _ else _) = _; rw [if_neg (fun e => h ((seenB_iff p r).1 e))]
theorem fo_len (r : Nat) : (fo p r).length ≤ r := by
  induction r with
  | zero => simp [fo]
  | succ r ih =>
    by_cases h : ∃ j, j < r ∧ p j = p r
    · rw [fo_old p h]; omega
    · rw [fo_new p h, List.length_append]; simp; omega
theorem fo_mono {r s : Nat} (h : r ≤ s) : ∃ l, fo p s = fo p r ++ l := by
  induction s with
  | zero => obtain rfl : r = 0 := by omega
            exact ⟨[], by simp⟩
  | succ s ih =>
    by_cases e : r = s + 1
    · subst e; exact ⟨[], by simp⟩
    · obtain ⟨l, hl⟩ := ih (by omega)
      by_cases h : ∃ j, j < s ∧ p j = p s
      · exact ⟨l, by rw [fo_old p h, hl]⟩
      · exact ⟨l ++ [s], by rw [fo_new p h, hl, List.append_assoc]⟩

/-- where the version of read r came up first -/
def ff (r : Nat) : Nat := ((List.range r).find? fun j => decide (p j = p r)).getD r
theorem ff_spec (r : Nat) : ff p r ≤ r ∧ p (ff p r) = p r ∧ ∀ j, j < ff p r → p j ≠ p r := by
  unfold ff
  cases h : (List.range r).find? fun j => decide (p j = p r) with
  | none =>
    rw [List.find?_eq_none] at h
    refine ⟨Nat.le_refl _, rfl, fun j hj e => ?_⟩
    have := h j (by simpa using hj)
    simp at this
    exact this e
  | some f =>
    have h1 := List.find?_some h
    have h2 := List.mem_of_find?_eq_some h
    refine ⟨by have := List.mem_range.1 h2; simp; omega, by simpa using h1, fun j hj e => ?_⟩
    simp at hj
    obtain ⟨l1, l2, hl, hno⟩ := (List.find?_eq_some_iff_append.1 h).2
    have hfr := List.mem_range.1 h2
    have hmem : j ∈ l1 := by
      have hjr : j ∈ List.range r := by simp; omega
      rw [hl] at hjr
      rw [List.mem_append] at hjr
      rcases hjr with hjr | hjr
      · exact hjr
      · exfalso
        have hs : (l1 ++ f :: l2).Pairwise (· < ·) := by rw [← hl]; exact List.pairwise_lt_range
        rw [List.pairwise_append] at hs
        have hs2 := List.pairwise_cons.1 hs.2.1
        rcases List.mem_cons.1 hjr with rfl | hq
        · omega
        · have := hs2.1 j hq; omega
    have := hno j hmem
    simp at this
    exact this e
theorem ff_same {i j : Nat} (h : p i = p j) : ff p i = ff p j := by
  obtain ⟨h1, h2, h3⟩ := ff_spec p i
  obtain ⟨k1, k2, k3⟩ := ff_spec p j
  rcases Nat.lt_trichotomy (ff p i) (ff p j) with q | q | q
  · exact absurd (h2.trans h) (k3 _ q)
  · exact q
  · exact absurd (k2.trans h.symm) (h3 _ q)
theorem ff_first {r : Nat} (h : ¬ ∃ j, j < r ∧ p j = p r) : ff p r = r := by
  obtain ⟨h1, h2, h3⟩ := ff_spec p r
  by_cases e : ff p r = r
  · exact e
  · exact absurd ⟨ff p r, by omega, h2⟩ h
/-- the version's number -/
def idv (r : Nat) : Nat := (fo p (ff p r)).length
theorem idv_same {i j : Nat} (h : p i = p j) : idv p i = idv p j := by unfold idv; rw [ff_same p h]
theorem idv_new {r : Nat} (h : ¬ ∃ j, j < r ∧ p j = p r) : idv p r = (fo p r).length := by unfold idv; rw [ff_first p h]
theorem idv_at {r s : Nat} (h : r < s) : idv p r < (fo p s).length ∧ (fo p s).getD (idv p r) 0 = ff p r := by
  obtain ⟨h1, h2, h3⟩ := ff_spec p r
  have hn : ¬ ∃ j, j < ff p r ∧ p j = p (ff p r) := fun ⟨j, hj, e⟩ => h3 j hj (e.trans h2)
  obtain ⟨l, hl⟩ := fo_mono p (show ff p r + 1 ≤ s by omega)
  rw [fo_new p hn] at hl
  unfold idv
  rw [hl]
  simp [List.getD]
end

/-- the key of a version -/
def kl (q : Int × Int) : Lit := .string (keyBytes [.int .i32 q.1, .int .i32 q.2])
def wfp (q : Int × Int) : Prop := (Lit.int .i32 q.1).wf = true ∧ (Lit.int .i32 q.2).wf = true
theorem kl_key {q : Int × Int} (h : wfp q) : keyOf Try.prog 59 (.agg #[.int .i32 q.1, .int .i32 q.2]) = some (kl q) := key59 q.1 q.2 h.1 h.2
theorem kl_inj {q q' : Int × Int} (h : wfp q) (h' : wfp q') (e : kl q = kl q') : q = q' := by
  have h1 := kl_key h
  have h2 := kl_key h'
  rw [e] at h1
  have := klaw59.inj h1 h2
  simp at this
  exact Prod.ext this.1 this.2

/-- the map of the versions' numbers -/
structure Mv (D : DataW Unit) (p : Nat → Int × Int) (r : Nat) : Prop where
  isMap : Maps.IsMap D
  has : ∀ q, wfp q → (Maps.has D (kl q) = true ↔ ∃ j, j < r ∧ p j = q)
  at' : ∀ j, j < r → D.atKey (kl (p j)) (.lit (.int .i64 0)) = .lit (.int .i64 (idv p j : Nat))

theorem Mv.start (p : Nat → Int × Int) : Mv (.map []) p 0 := ⟨⟨_, rfl⟩, fun q _ => by simp [Maps.has], fun j hj => by omega⟩
theorem Mv.skip {D : DataW Unit} {p : Nat → Int × Int} {r : Nat} (h : Mv D p r) (ho : ∃ j, j < r ∧ p j = p r) : Mv D p (r + 1) := by
  refine ⟨h.isMap, fun q hq => ?_, fun j hj => ?_⟩
  · rw [h.has q hq]
    constructor
    · rintro ⟨j, hj, e⟩; exact ⟨j, by omega, e⟩
    · rintro ⟨j, hj, e⟩
      by_cases q' : j = r
      · subst q'; obtain ⟨i, hi, e2⟩ := ho; exact ⟨i, hi, e2.trans e⟩
      · exact ⟨j, by omega, e⟩
  · by_cases q' : j = r
    · subst q'
      obtain ⟨i, hi, e2⟩ := ho
      rw [← e2, ← idv_same p e2]
      exact h.at' i hi
    · exact h.at' j (by omega)
theorem Mv.put {D : DataW Unit} {p : Nat → Int × Int} {r : Nat} (h : Mv D p r) (hw : ∀ j, j ≤ r → wfp (p j)) (ho : ¬ ∃ j, j < r ∧ p j = p r) : Mv (D.put (kl (p r)) (.lit (.int .i64 ((fo p r).length : Nat)))) p (r + 1) := by
  have hk : WideAt.IsKeyLit (kl (p r)) := klaw59.key (kl_key (hw r (Nat.le_refl _)))
  have isM : Maps.IsMap (D.put (kl (p r)) (.lit (.int .i64 ((fo p r).length : Nat)))) := by obtain ⟨es, rfl⟩ := h.isMap; exact ⟨_, rfl⟩
  refine ⟨isM, fun q hq => ?_, fun j hj => ?_⟩
  · by_cases e : q = p r
    · subst e
      rw [Maps.has_put_same h.isMap hk]
      simp only [true_iff]
      exact ⟨r, by omega, rfl⟩
    · rw [Maps.has_put_other (fun e2 => e (kl_inj hq (hw r (Nat.le_refl _)) e2)), h.has q hq]
      constructor
      · rintro ⟨j, hj, e2⟩; exact ⟨j, by omega, e2⟩
      · rintro ⟨j, hj, e2⟩
        by_cases q' : j = r
        · subst q'; exact absurd e2.symm e
        · exact ⟨j, by omega, e2⟩
  · by_cases q' : j = r
    · subst q'
      rw [Maps.atKey_put_same h.isMap hk, idv_new p ho]
    · rw [Maps.atKey_put_other (fun e2 => ho ⟨j, by omega, kl_inj (hw j (by omega)) (hw r (Nat.le_refl _)) e2⟩)]
      exact h.at' j (by omega)

/-! ### rows of numbers, each in a block of its own -/
structure Fam (w : World) (base m : Nat) (us : Nat → Value) (ls : Nat → List Int) : Prop where
  row : ∀ j, j < m → w.ownsRow base 3 1 (us j) (ls j).length ((ls j).map (Value.int .i64))
  apart : ∀ i j, i < m → j < m → i ≠ j → ∀ b, (us i).ownBlock = some b → (us j).ownBlock ≠ some b
  emp : ∀ j, j < m → ls j = [] → us j = .slice none 0 0

theorem Fam.same {w w' : World} {base m : Nat} {us : Nat → Value} {ls : Nat → List Int} (h : Fam w base m us ls) (hk : ∀ b, base ≤ b → b < w.heap.size → w'.heap[b]? = w.heap[b]?) : Fam w' base m us ls :=
  ⟨fun j hj => ownsRow_same (h.row j hj) fun b hb hB => hk b hB ((h.row j hj).lt b hb).2, h.apart, h.emp⟩
theorem Fam.start (w : World) (base m : Nat) : Fam w base m (fun _ => .slice none 0 0) (fun _ => []) :=
  ⟨fun j _ => World.ownsRow_nil _ _ _ _, fun i j _ _ _ b hb => by simp [Value.ownBlock] at hb, fun _ _ _ => rfl⟩
theorem Fam.push {w w' : World} {base m j : Nat} {us : Nat → Value} {ls : Nat → List Int} {o : Obj} {u' : Value} {z : Int} (h : Fam w base m us ls) (hj : j < m)
    (ho : w'.ownsRow base 3 1 u' ((ls j).length + 1) ((ls j).map (Value.int .i64) ++ [.int .i64 z])) (hg : (w.alloc o).grownBy w' (us j).ownBlock) (hloc : u'.ownBlock = (us j).ownBlock ∨ u'.ownBlock = some (w.alloc o).heap.size) :
    Fam w' base m (upd us j u') (upd ls j (ls j ++ [z])) := by
  have hkeep : ∀ b, b < w.heap.size → some b ≠ (us j).ownBlock → w'.heap[b]? = w.heap[b]? := fun b hb hne => (hg.block b (by simp; omega) hne).trans (Below.heap_alloc _ _ _ hb)
  have hnew : ∀ x, x < m → x ≠ j → ∀ b, (us x).ownBlock = some b → u'.ownBlock ≠ some b := by
    intro x hx hxj b hb e
    rcases hloc with hl | hl
    · rw [hl] at e; exact h.apart x j hx hj hxj b hb e
    · rw [hl] at e
      have := ((h.row x hx).lt b hb).2
      simp at e
      omega
  refine ⟨fun i hi => ?_, fun i k hi hk hik b hb => ?_, fun i hi he => ?_⟩
  · by_cases q : i = j
    · subst q; rw [upd_same, upd_same]; simpa using ho
    · rw [upd_ne _ _ q, upd_ne _ _ q]
      exact ownsRow_same (h.row i hi) fun b hb hB => hkeep b ((h.row i hi).lt b hb).2 (fun e => h.apart i j hi hj q b hb e.symm)
  · by_cases q : i = j
    · subst q
      rw [upd_same] at hb
      rw [upd_ne _ _ (fun e => hik e.symm)]
      intro e
      exact hnew k hk (fun e => hik e.symm) b e hb
    · rw [upd_ne _ _ q] at hb
      by_cases q2 : k = j
      · subst q2; rw [upd_same]; exact hnew i hi q b hb
      · rw [upd_ne _ _ q2]; exact h.apart i k hi hk hik b hb
  · by_cases q : i = j
    · subst q; rw [upd_same] at he; simp at he
    · rw [upd_ne _ _ q] at he ⊢; exact h.emp i hi he
theorem fam_rw {w : World} {base n c : Nat} {a : Option Addr} {l : List Int} (h : w.ownsRow base 3 1 (.slice a n c) n (l.map (Value.int .i64))) : Rw w a n c (ints .i64 (fun i => l.getD i 0)) := by
  rcases h.2 with ⟨e, h0⟩ | ⟨g, cap, cur, e, _, hh, _⟩
  · simp at e
    obtain ⟨rfl, rfl, rfl⟩ := e
    exact ⟨fun _ => ⟨rfl, rfl⟩, by simp⟩
  · simp at e
    obtain ⟨rfl, rfl⟩ := e
    refine ⟨by simp, fun x hx i hi => ?_⟩
    obtain rfl := Option.some.inj hx
    rw [Addr.add_lit, Nat.zero_add, h.cellAt i (by omega)]
    have hl : i < l.length := by have := h.1; simp at this; omega
    simp [List.getD, hl]
end Go.Proofs.Qxb6602948a

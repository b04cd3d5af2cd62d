import Derived.Test.Qxb6602948aKit
/- UNION-FIND, PLAINLY: no Go in sight. p: the parents; ρ: each one's root; d: a depth that falls along the parents. -/
namespace Go.Uf
open Go.Kx (upd upd_same upd_ne)

structure Ufd (p ρ d : Nat → Nat) (n : Nat) : Prop where
  lt : ∀ t, t < n → p t < n
  rlt : ∀ t, t < n → ρ t < n
  up : ∀ t, t < n → ρ (p t) = ρ t
  root : ∀ t, t < n → p (ρ t) = ρ t
  fix : ∀ t, t < n → p t = t → ρ t = t
  wf : ∀ t, t < n → p t ≠ t → d (p t) < d t

def Ufo (p ρ : Nat → Nat) (n : Nat) : Prop := ∃ d, Ufd p ρ d n

section
variable {p ρ d : Nat → Nat} {n : Nat}

theorem Ufd.rr (h : Ufd p ρ d n) {t : Nat} (ht : t < n) : ρ (ρ t) = ρ t := h.fix _ (h.rlt t ht) (h.root t ht)

theorem Ufd.deep (h : Ufd p ρ d n) : ∀ (m t : Nat), d t ≤ m → t < n → t ≠ ρ t → d (ρ t) < d t
  | 0, t, hm, ht, hne => by
    have hp : p t ≠ t := fun e => hne (h.fix t ht e).symm
    have := h.wf t ht hp
    omega
  | m + 1, t, hm, ht, hne => by
    have hp : p t ≠ t := fun e => hne (h.fix t ht e).symm
    have h1 := h.wf t ht hp
    by_cases e : p t = ρ t
    · rw [← e]; exact h1
    · have := Ufd.deep h m (p t) (by omega) (h.lt t ht) (by rw [h.up t ht]; exact e)
      rw [h.up t ht] at this
      omega

/-- the way is shortened -/
theorem Ufd.press (h : Ufd p ρ d n) {t : Nat} (ht : t < n) (hne : p t ≠ ρ t) : Ufd (upd p t (ρ t)) ρ d n := by
  have hr : t ≠ ρ t := fun e => hne (by rw [← e]; have := h.root t ht; rw [← e] at this; exact this)
  have hd := h.deep (d t) t (Nat.le_refl _) ht hr
  refine ⟨fun s hs => ?_, h.rlt, fun s hs => ?_, fun s hs => ?_, fun s hs e => ?_, fun s hs e => ?_⟩
  · by_cases q : s = t
    · subst q; rw [upd_same]; exact h.rlt s ht
    · rw [upd_ne _ _ q]; exact h.lt s hs
  · by_cases q : s = t
    · subst q; rw [upd_same]; exact h.rr ht
    · rw [upd_ne _ _ q]; exact h.up s hs
  · by_cases q : ρ s = t
    · exfalso
      have h1 := h.root s hs
      have h2 := h.rr hs
      rw [q] at h1 h2
      exact hr h2.symm
    · rw [upd_ne _ _ q]; exact h.root s hs
  · by_cases q : s = t
    · subst q; rw [upd_same] at e; exact e
    · rw [upd_ne _ _ q] at e; exact h.fix s hs e
  · by_cases q : s = t
    · subst q; rw [upd_same]; exact hd
    · rw [upd_ne _ _ q] at e ⊢; exact h.wf s hs e

/-- two trees are joined: everything whose root was a has the root b -/
def joined (ρ : Nat → Nat) (a b : Nat) : Nat → Nat := fun s => if ρ s = a then b else ρ s

theorem Ufd.join (h : Ufd p ρ d n) {a b : Nat} (ha : a < n) (hb : b < n) (ra : ρ a = a) (rb : ρ b = b) : Ufo (upd p a b) (joined ρ a b) n := by
  have pb : p b = b := by have := h.root b hb; rw [rb] at this; exact this
  refine ⟨fun s => if ρ s = a ∧ a ≠ b then d s + (d b + 1) else d s, fun s hs => ?_, fun s hs => ?_, fun s hs => ?_, fun s hs => ?_, fun s hs e => ?_, fun s hs e => ?_⟩
  · by_cases q : s = a
    · subst q; rw [upd_same]; exact hb
    · rw [upd_ne _ _ q]; exact h.lt s hs
  · unfold joined; split
    · exact hb
    · exact h.rlt s hs
  · by_cases q : s = a
    · subst q; rw [upd_same]; simp [joined, ra, rb]
    · rw [upd_ne _ _ q]; simp [joined, h.up s hs]
  · by_cases q : ρ s = a
    · have : joined ρ a b s = b := by simp [joined, q]
      rw [this]
      by_cases e : b = a
      · subst e; exact upd_same _ _ _
      · rw [upd_ne _ _ e]; exact pb
    · have : joined ρ a b s = ρ s := by simp [joined, q]
      rw [this, upd_ne _ _ q]; exact h.root s hs
  · by_cases q : s = a
    · subst q; rw [upd_same] at e; simp [joined, ra, e]
    · rw [upd_ne _ _ q] at e
      have := h.fix s hs e
      simp [joined, this, q]
  · by_cases q : s = a
    · subst q
      rw [upd_same] at e ⊢
      have e' : s ≠ b := fun h => e h.symm
      simp [rb, ra, e', e]
      omega
    · rw [upd_ne _ _ q] at e ⊢
      have := h.wf s hs e
      rw [h.up s hs]
      split <;> omega
end

theorem ufo_id (n : Nat) : Ufo (fun t => t) (fun t => t) n := ⟨fun _ => 0, fun _ h => h, fun _ h => h, fun _ _ => rfl, fun _ _ => rfl, fun _ _ _ => rfl, fun _ _ h => absurd rfl h⟩

/-! ### the links -/
/-- roots, and the first user of each item (-1: none yet) -/
structure St where
  rho : Nat → Nat
  first : Nat → Int

def st0 : St := ⟨fun t => t, fun _ => -1⟩
def link (t x : Nat) (s : St) : St := if s.first x < 0 then ⟨s.rho, upd s.first x (t : Int)⟩ else ⟨joined s.rho (s.rho t) (s.rho (s.first x).toNat), s.first⟩
/-- k items of t -/
def linkN (f : Nat → Nat) (t : Nat) : Nat → St → St
  | 0, s => s
  | k + 1, s => link t (f k) (linkN f t k s)
/-- the reads and the writes of t -/
def txn (rS rI wS wI : Nat → Int) (t : Nat) (s : St) : St :=
  linkN (fun k => (wI ((wS t).toNat + k)).toNat) t (wS (t + 1) - wS t).toNat (linkN (fun k => (rI ((rS t).toNat + k)).toNat) t (rS (t + 1) - rS t).toNat s)
def upTo (rS rI wS wI : Nat → Int) (lo : Nat) : Nat → St
  | 0 => st0
  | j + 1 => txn rS rI wS wI (lo + j) (upTo rS rI wS wI lo j)

/-! ### the groups: each root with its members, in the order of their coming -/
def put (r t : Nat) : List (Nat × List Nat) → List (Nat × List Nat)
  | [] => [(r, [t])]
  | (q, l) :: g => if q = r then (q, l ++ [t]) :: g else (q, l) :: put r t g
def group (ρ : Nat → Nat) (lo : Nat) : Nat → List (Nat × List Nat)
  | 0 => []
  | j + 1 => put (ρ (lo + j)) (lo + j) (group ρ lo j)
def comps (rS rI wS wI : Nat → Int) (lo n : Nat) : List (List Nat) := (group (upTo rS rI wS wI lo (n - lo)).rho lo (n - lo)).map (·.2)

end Go.Uf

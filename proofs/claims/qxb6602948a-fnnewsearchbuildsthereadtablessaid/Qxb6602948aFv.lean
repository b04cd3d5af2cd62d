import Derived.Test.Qxb6602948aNv
import Derived.Test.Qxb6602948aRn
namespace Go.Proofs.Qxb6602948a
open Go.Kx
set_option linter.unusedVariables false

theorem fo_at (p : Nat → Int × Int) : ∀ s v, v < (fo p s).length → (fo p s).getD v 0 < s ∧ idv p ((fo p s).getD v 0) = v ∧ ff p ((fo p s).getD v 0) = (fo p s).getD v 0
  | 0, v, h => by simp [fo] at h
  | s + 1, v, h => by
    by_cases q : ∃ j, j < s ∧ p j = p s
    · rw [fo_old p q] at h ⊢
      have := fo_at p s v h
      exact ⟨by omega, this.2⟩
    · rw [fo_new p q] at h ⊢
      by_cases e : v < (fo p s).length
      · have e2 : (fo p s ++ [s]).getD v 0 = (fo p s).getD v 0 := by simp [List.getD, List.getElem?_append, e]
        rw [e2]
        have := fo_at p s v e
        exact ⟨by omega, this.2⟩
      · have hv : v = (fo p s).length := by simp at h; omega
        subst hv
        have e2 : (fo p s ++ [s]).getD (fo p s).length 0 = s := by simp [List.getD]
        rw [e2]
        exact ⟨by omega, idv_new p q, ff_first p q⟩

theorem idv_all (p : Nat → Int × Int) (rn : Nat) : (∀ r, r < rn → idv p r < (fo p rn).length) ∧ ∀ v, v < (fo p rn).length → ∃ r, r < rn ∧ idv p r = v :=
  ⟨fun r hr => (idv_at p hr).1, fun v hv => ⟨_, (fo_at p rn v hv).1, (fo_at p rn v hv).2.1⟩⟩

/-- the number that a write is told: that of the first read of its version, or -1 -/
def wid (p : Nat → Int × Int) (rn : Nat) (q : Int × Int) : Int := match (List.range rn).find? fun r => decide (p r = q) with
  | some r => (idv p r : Int)
  | none => -1
theorem wid_has {p : Nat → Int × Int} {rn r : Nat} {q : Int × Int} (hr : r < rn) (e : p r = q) : wid p rn q = (idv p r : Int) := by
  unfold wid
  cases h : (List.range rn).find? fun r => decide (p r = q) with
  | none =>
    rw [List.find?_eq_none] at h
    have := h r (by simpa using hr)
    simp at this
    exact absurd e this
  | some f =>
    have h1 := List.find?_some h
    simp at h1
    show (idv p f : Int) = _
    rw [idv_same p (h1.trans e.symm)]
theorem wid_no {p : Nat → Int × Int} {rn : Nat} {q : Int × Int} (h : ¬ ∃ r, r < rn ∧ p r = q) : wid p rn q = -1 := by
  unfold wid
  cases hf : (List.range rn).find? fun r => decide (p r = q) with
  | none => rfl
  | some f =>
    have h1 := List.find?_some hf
    simp at h1
    exact absurd ⟨f, List.mem_range.1 (List.mem_of_find?_eq_some hf), h1⟩ h
end Go.Proofs.Qxb6602948a

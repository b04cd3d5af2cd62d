import Derived.Test.Qxb6602948aUf
namespace Go.Uf

theorem put_length (r t : Nat) : ∀ (g : List (Nat × List Nat)), (put r t g).length ≤ g.length + 1
  | [] => by simp [put]
  | (q, l) :: g => by
    have ih := put_length r t g
    unfold put
    by_cases e : q = r
    · simp [e]
    · simp [e]; omega

theorem put_mem (r t j : Nat) : ∀ (g : List (Nat × List Nat)), (∀ x ∈ g, x.2.length ≤ j) → ∀ x ∈ put r t g, x.2.length ≤ j + 1
  | [], _ => by simp [put]
  | (q, l) :: g, h => by
    have hl := h (q, l) (by simp)
    have ih := put_mem r t j g (fun x hx => h x (by simp [hx]))
    unfold put
    by_cases e : q = r
    · simp [e]
      simp at hl
      exact ⟨hl, fun a b hab => Nat.le_succ_of_le (h (a, b) (by simp [hab]))⟩
    · simp [e]
      simp at hl
      exact ⟨by omega, fun a b hab => ih (a, b) hab⟩

theorem group_len (ρ : Nat → Nat) (lo : Nat) : ∀ j, (group ρ lo j).length ≤ j ∧ ∀ x ∈ group ρ lo j, x.2.length ≤ j
  | 0 => by simp [group]
  | j + 1 => by
    have ih := group_len ρ lo j
    exact ⟨Nat.le_trans (put_length _ _ _) (by omega), put_mem _ _ j _ ih.2⟩

theorem comps_len (rS rI wS wI : Nat → Int) (lo n : Nat) : (comps rS rI wS wI lo n).length ≤ n ∧ ∀ j, j < (comps rS rI wS wI lo n).length → ((comps rS rI wS wI lo n).getD j []).length ≤ n := by
  have h := group_len (upTo rS rI wS wI lo (n - lo)).rho lo (n - lo)
  unfold comps
  refine ⟨by rw [List.length_map]; omega, fun j hj => ?_⟩
  rw [List.length_map] at hj
  have := h.2 _ (List.getElem_mem hj)
  simp [List.getD, hj]
  omega
end Go.Uf

import Derived.Test.Qxb6602948aR2
/- A STATEMENT 'a.f[i] = append(a.f[i], x)' THAT DRAWS ITS ORDER: constants, one block laid, one append, one store. No program in sight. -/
namespace Go.Kx
open Go.RowKit
set_option linter.unusedVariables false

/-- cst: what each of the other operations yields, and where; iB: the block of one cell; iA: the append; iS: the store; G: what is known behind the append; T: the store -/
structure Ap (cst : Nat → Option (Nat × Value)) (iB iA iS dB dA : Nat) (w1 : World) (o : Obj) (G : Value → World → Prop) (T : Value → World → World) (L : Nat → Bool) (x : Nat → Value) (w : World) : Prop where
  c : ∀ i d v, cst i = some (d, v) → L i = true → x d = v
  s0 : L iB = false → w = w1
  s1 : L iB = true → L iA = false → w = w1.alloc o ∧ x dB = .slice (some ⟨w1.heap.size, 0, none⟩) 1 1
  s2 : L iA = true → L iS = false → G (x dA) w
  s3 : L iS = true → ∃ w8, G (x dA) w8 ∧ w = T (x dA) w8
  ab : L iA = true → L iB = true
  sa : L iS = true → L iA = true

section
variable {cst : Nat → Option (Nat × Value)} {iB iA iS dB dA : Nat} {w1 w w' : World} {o : Obj} {G : Value → World → Prop} {T : Value → World → World} {L L' : Nat → Bool} {x : Nat → Value}

theorem Ap.start (w1 : World) (x : Nat → Value) : Ap cst iB iA iS dB dA w1 o G T (fun _ => false) x w1 :=
  ⟨fun _ _ _ _ h => (by cases h), fun _ => rfl, fun h => (by cases h), fun h => (by cases h), fun h => (by cases h), fun h => (by cases h), fun h => (by cases h)⟩

/-- one of the others -/
theorem Ap.const (h : Ap cst iB iA iS dB dA w1 o G T L x w) {i d : Nat} {v : Value} (hc : cst i = some (d, v)) (hinj : ∀ j u, cst j = some (d, u) → j = i) (hd : d ≠ dB ∧ d ≠ dA) (hi : i ≠ iB ∧ i ≠ iA ∧ i ≠ iS) (hL : ∀ j, j ≠ i → L' j = L j) :
    Ap cst iB iA iS dB dA w1 o G T L' (upd x d v) w := by
  have eB := hL iB (fun e => hi.1 e.symm)
  have eA := hL iA (fun e => hi.2.1 e.symm)
  have eS := hL iS (fun e => hi.2.2 e.symm)
  have xB := upd_ne x v (fun e => hd.1 e.symm)
  have xA := upd_ne x v (fun e => hd.2 e.symm)
  refine ⟨fun j e u hj hl => ?_, by rw [eB]; exact h.s0, by rw [eB, eA, xB]; exact h.s1, by rw [eA, eS, xA]; exact h.s2, by rw [eS, xA]; exact h.s3, by rw [eA, eB]; exact h.ab, by rw [eS, eA]; exact h.sa⟩
  by_cases q : e = d
  · subst q
    have := hinj j u hj
    subst this
    rw [hc] at hj
    simp at hj
    rw [upd_same]; exact hj
  · rw [upd_ne _ _ q]
    have hne : j ≠ i := fun e2 => by subst e2; rw [hc] at hj; simp at hj; exact q hj.1.symm
    rw [hL j hne] at hl
    exact h.c j e u hj hl

/-- the block of one cell -/
theorem Ap.build (h : Ap cst iB iA iS dB dA w1 o G T L x w) (h0 : L iB = false) (hcB : ∀ j u, cst j ≠ some (dB, u)) (hnc : cst iB = none) (hAB : iA ≠ iB) (hSB : iS ≠ iB) (hdd : dA ≠ dB) (hL : ∀ j, j ≠ iB → L' j = L j) (hT : L' iB = true) :
    w = w1 ∧ Ap cst iB iA iS dB dA w1 o G T L' (upd x dB (.slice (some ⟨w1.heap.size, 0, none⟩) 1 1)) (w1.alloc o) := by
  have hA : L iA = false := by cases q : L iA; rfl; have := h.ab q; rw [h0] at this; cases this
  have hS : L iS = false := by cases q : L iS; rfl; have := h.sa q; rw [hA] at this; cases this
  have eA := hL iA hAB
  have eS := hL iS hSB
  refine ⟨h.s0 h0, fun j e u hj hl => ?_, fun q => (by rw [hT] at q; cases q), fun _ _ => ⟨rfl, upd_same _ _ _⟩, fun q => (by rw [eA, hA] at q; cases q), fun q => (by rw [eS, hS] at q; cases q), fun q => (by rw [eA, hA] at q; cases q), fun q => (by rw [eS, hS] at q; cases q)⟩
  have hne : j ≠ iB := fun e2 => by subst e2; rw [hnc] at hj; cases hj
  rw [upd_ne _ _ (fun e2 => hcB j u (by rw [← e2]; exact hj))]
  rw [hL j hne] at hl
  exact h.c j e u hj hl

/-- the append -/
theorem Ap.append (h : Ap cst iB iA iS dB dA w1 o G T L x w) (h0 : L iA = false) (hB : L iB = true) (hcA : ∀ j u, cst j ≠ some (dA, u)) (hnc : cst iA = none) (hAB : iA ≠ iB) (hSA : iS ≠ iA) (hL : ∀ j, j ≠ iA → L' j = L j) (hT : L' iA = true) :
    (w = w1.alloc o ∧ x dB = .slice (some ⟨w1.heap.size, 0, none⟩) 1 1) ∧ ∀ v w8, G v w8 → Ap cst iB iA iS dB dA w1 o G T L' (upd x dA v) w8 := by
  have hS : L iS = false := by cases q : L iS; rfl; have := h.sa q; rw [h0] at this; cases this
  have eB := hL iB (fun e => hAB e.symm)
  have eS := hL iS hSA
  refine ⟨h.s1 hB h0, fun v w8 hG => ⟨fun j e u hj hl => ?_, fun q => (by rw [eB, hB] at q; cases q), fun _ q => (by rw [hT] at q; cases q), fun _ _ => by rw [upd_same]; exact hG, fun q => (by rw [eS, hS] at q; cases q), fun _ => by rw [eB]; exact hB, fun q => (by rw [eS, hS] at q; cases q)⟩⟩
  have hne : j ≠ iA := fun e2 => by subst e2; rw [hnc] at hj; cases hj
  rw [upd_ne _ _ (fun e2 => hcA j u (by rw [← e2]; exact hj))]
  rw [hL j hne] at hl
  exact h.c j e u hj hl

/-- the store -/
theorem Ap.store (h : Ap cst iB iA iS dB dA w1 o G T L x w) (h0 : L iS = false) (hA : L iA = true) (hnc : cst iS = none) (hAS : iA ≠ iS) (hBS : iB ≠ iS) (hL : ∀ j, j ≠ iS → L' j = L j) (hT : L' iS = true) :
    G (x dA) w ∧ Ap cst iB iA iS dB dA w1 o G T L' x (T (x dA) w) := by
  have hG := h.s2 hA h0
  have eA := hL iA hAS
  have eB := hL iB hBS
  have hB := h.ab hA
  refine ⟨hG, fun j e u hj hl => ?_, fun q => (by rw [eB, hB] at q; cases q), fun _ q => (by rw [eA, hA] at q; cases q), fun _ q => (by rw [hT] at q; cases q), fun _ => ⟨w, hG, rfl⟩, fun _ => by rw [eB]; exact hB, fun _ => by rw [eA]; exact hA⟩
  have hne : j ≠ iS := fun e2 => by subst e2; rw [hnc] at hj; cases hj
  rw [hL j hne] at hl
  exact h.c j e u hj hl
end
end Go.Kx

import Derived.Test.Qxb6602948aMz
namespace Go.Proofs.Qxb6602948a
open Go.RowKit Go.Kx Go.Uf Go.Maps
set_option linter.unusedVariables false

theorem utxn_eq {rS rI wS wI : Nat → Int} {t rlo nr wlo nw : Nat} (e1 : rS t = (rlo : Int)) (e2 : rS (t + 1) = ((rlo + nr : Nat) : Int)) (e3 : wS t = (wlo : Int)) (e4 : wS (t + 1) = ((wlo + nw : Nat) : Int)) (g : Grp) :
    utxn rS rI wS wI t g = addN (fun k => (wI (wlo + k)).toNat) t nw (addN (fun k => (rI (rlo + k)).toNat) t nr g) := by
  unfold utxn
  rw [e1, e2, e3, e4]
  rw [show (((wlo + nw : Nat) : Int) - (wlo : Int)).toNat = nw by omega, show (((rlo + nr : Nat) : Int) - (rlo : Int)).toNat = nr by omega]
  rfl
theorem tf_eq {rS rI wS wI : Nat → Int} {t rlo nr wlo nw : Nat} (e1 : rS t = (rlo : Int)) (e2 : rS (t + 1) = ((rlo + nr : Nat) : Int)) (e3 : wS t = (wlo : Int)) (e4 : wS (t + 1) = ((wlo + nw : Nat) : Int)) (y : Nat) :
    tf rS rI wS wI t y ↔ (∃ k, k < nr ∧ y = (rI (rlo + k)).toNat) ∨ (∃ k, k < nw ∧ y = (wI (wlo + k)).toNat) := by
  unfold tf
  rw [e1, e2, e3, e4]
  rw [show (((wlo + nw : Nat) : Int) - (wlo : Int)).toNat = nw by omega, show (((rlo + nr : Nat) : Int) - (rlo : Int)).toNat = nr by omega]
  exact Iff.rfl

theorem fine_tf {n items M N : Nat} {rS rI wS wI : Nat → Int} (hf : Fine n items M N rS rI wS wI) : ∀ t, t < n → ∀ y, tf rS rI wS wI t y → y < items := fun t ht y hy => by
  obtain ⟨rlo, nr, re1, re2, re3⟩ := hf.rs.at' ht
  obtain ⟨wlo, nw, we1, we2, we3⟩ := hf.ws.at' ht
  rcases (tf_eq re1 re2 we1 we2 y).1 hy with ⟨k, hk, rfl⟩ | ⟨k, hk, rfl⟩
  · have := hf.ri (rlo + k) (by omega); omega
  · have := hf.wi (wlo + k) (by omega); omega

/-- how many users -/
theorem uUp_len {n items M N : Nat} {rS rI wS wI : Nat → Int} (hf : Fine n items M N rS rI wS wI) (lo x : Nat) : ∀ j, lo + j ≤ n → ((gl (uUp rS rI wS wI items lo j) x).length : Int) ≤ rS (lo + j) + wS (lo + j)
  | 0, hj => by
    have h1 : gl (uUp rS rI wS wI items lo 0) x = [] := gl_replicate items x
    rw [h1]
    have h2 := hf.rs.le (Nat.zero_le lo) (by omega)
    have h3 := hf.ws.le (Nat.zero_le lo) (by omega)
    have h4 := hf.rs.zero
    have h5 := hf.ws.zero
    show (0 : Int) ≤ rS (lo + 0) + wS (lo + 0)
    rw [Nat.add_zero]
    omega
  | j + 1, hj => by
    have ih := uUp_len hf lo x j (by omega)
    obtain ⟨rlo, nr, re1, re2, re3⟩ := hf.rs.at' (show lo + j < n by omega)
    obtain ⟨wlo, nw, we1, we2, we3⟩ := hf.ws.at' (show lo + j < n by omega)
    have hl := uUp_length rS rI wS wI items lo j
    rw [re1, we1] at ih
    rw [← Nat.add_assoc, re2, we2]
    show ((gl (utxn rS rI wS wI (lo + j) (uUp rS rI wS wI items lo j)) x).length : Int) ≤ _
    rw [utxn_eq re1 re2 we1 we2]
    have h1 := addN_len (f := fun k => (rI (rlo + k)).toNat) (t := lo + j) (g := uUp rS rI wS wI items lo j) x nr (fun k hk => by rw [hl]; have := hf.ri (rlo + k) (by omega); omega)
    have h2 := addN_len (f := fun k => (wI (wlo + k)).toNat) (t := lo + j) (g := addN (fun k => (rI (rlo + k)).toNat) (lo + j) nr (uUp rS rI wS wI items lo j)) x nw (fun k hk => by rw [addN_length, hl]; have := hf.wi (wlo + k) (by omega); omega)
    omega
end Go.Proofs.Qxb6602948a

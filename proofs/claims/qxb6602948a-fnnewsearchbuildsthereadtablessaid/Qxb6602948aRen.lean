import Derived.Test.Qxb6602948aUf
import Derived.Test.Qxb6602948aBase
/- THE LAW ON RENAMING, PLAINLY -/
namespace Go.Uf
open Go.Kx (upd upd_same upd_ne)
open Go.Proofs.Qxb6602948a (Starts)

/-- the items of t, renamed: its reads, then its writes -/
def part (items : Nat) (rS rI wS wI : Nat → Int) (t : Nat) : List Int :=
  (List.range (rS (t + 1) - rS t).toNat).map (fun k => (items : Int) - 1 - rI ((rS t).toNat + k)) ++ (List.range (wS (t + 1) - wS t).toNat).map (fun k => (items : Int) - 1 - wI ((wS t).toNat + k))
def parts (items : Nat) (rS rI wS wI : Nat → Int) : Nat → List Int
  | 0 => []
  | t + 1 => parts items rS rI wS wI t ++ part items rS rI wS wI t

theorem parts_prefix (items : Nat) (rS rI wS wI : Nat → Int) (t : Nat) : ∀ d, ∃ R, parts items rS rI wS wI (t + d) = parts items rS rI wS wI t ++ R
  | 0 => ⟨[], by simp⟩
  | d + 1 => by
    obtain ⟨R, h⟩ := parts_prefix items rS rI wS wI t d
    exact ⟨R ++ part items rS rI wS wI (t + d), by rw [← Nat.add_assoc]; show parts items rS rI wS wI (t + d) ++ _ = _; rw [h, List.append_assoc]⟩

theorem parts_at (items : Nat) (rS rI wS wI : Nat → Int) {t n k : Nat} (ht : t < n) (hk : k < (part items rS rI wS wI t).length) :
    (parts items rS rI wS wI n).getD ((parts items rS rI wS wI t).length + k) 0 = (part items rS rI wS wI t).getD k 0 := by
  obtain ⟨R, h⟩ := parts_prefix items rS rI wS wI (t + 1) (n - (t + 1))
  rw [show t + 1 + (n - (t + 1)) = n by omega] at h
  rw [h]
  show ((parts items rS rI wS wI t ++ part items rS rI wS wI t) ++ R).getD _ 0 = _
  rw [List.append_assoc]
  have hno : ¬ (parts items rS rI wS wI t).length + k < (parts items rS rI wS wI t).length := by omega
  simp [List.getD, List.getElem?_append, hk, hno]

theorem linkN_add (f : Nat → Nat) (t a : Nat) (s : St) : ∀ b, linkN f t (a + b) s = linkN (fun k => f (a + k)) t b (linkN f t a s)
  | 0 => rfl
  | b + 1 => by
    show link t (f (a + b)) (linkN f t (a + b) s) = link t (f (a + b)) _
    rw [linkN_add f t a s b]

theorem linkN_congr {f g : Nat → Nat} {t : Nat} {s : St} : ∀ {k : Nat}, (∀ i, i < k → f i = g i) → linkN f t k s = linkN g t k s
  | 0, _ => rfl
  | k + 1, h => by
    show link t (f k) (linkN f t k s) = link t (g k) (linkN g t k s)
    rw [linkN_congr (fun i hi => h i (by omega)), h k (by omega)]

/-- one state, its items renamed -/
def Rel (items : Nat) (s1 s2 : St) : Prop := s2.rho = s1.rho ∧ ∀ x, x < items → s2.first (items - 1 - x) = s1.first x

theorem Rel.link {items : Nat} {s1 s2 : St} (h : Rel items s1 s2) (t x : Nat) (hx : x < items) : Rel items (link t x s1) (link t (items - 1 - x) s2) := by
  unfold Uf.link
  rw [h.2 x hx]
  by_cases hf : s1.first x < 0
  · rw [if_pos hf, if_pos hf]
    refine ⟨h.1, fun y hy => ?_⟩
    show upd s2.first (items - 1 - x) (t : Int) (items - 1 - y) = upd s1.first x (t : Int) y
    by_cases e : y = x
    · subst e; rw [upd_same, upd_same]
    · rw [upd_ne _ _ e, upd_ne _ _ (by omega)]; exact h.2 y hy
  · rw [if_neg hf, if_neg hf]
    exact ⟨by show joined _ _ _ = joined _ _ _; rw [h.1], h.2⟩

theorem Rel.linkN {items : Nat} {s1 s2 : St} (h : Rel items s1 s2) (t : Nat) (f g : Nat → Nat) : ∀ k, (∀ i, i < k → f i < items ∧ g i = items - 1 - f i) → Rel items (linkN f t k s1) (linkN g t k s2)
  | 0, _ => h
  | k + 1, hk => by
    have ih := Rel.linkN h t f g k (fun i hi => hk i (by omega))
    show Rel items (Uf.link t (f k) _) (Uf.link t (g k) _)
    rw [(hk k (by omega)).2]
    exact ih.link t (f k) (hk k (by omega)).1

/-- what the renamed history is made of -/
structure Renamed (n items M N : Nat) (rS rI wS wI rS2 wS2 wI2 : Nat → Int) : Prop where
  rs : Starts rS (n + 1) n M
  ws : Starts wS (n + 1) n N
  ri : ∀ q, q < M → 0 ≤ rI q ∧ rI q < (items : Int)
  wi : ∀ q, q < N → 0 ≤ wI q ∧ wI q < (items : Int)
  r2 : ∀ t, t ≤ n → rS2 t = 0
  w2 : ∀ t, t ≤ n → wS2 t = ((parts items rS rI wS wI t).length : Int)
  i2 : ∀ j, j < (parts items rS rI wS wI n).length → wI2 j = (parts items rS rI wS wI n).getD j 0

theorem starts_at {z : Nat → Int} {L N M : Nat} (h : Starts z L N M) {i : Nat} (hi : i < N) : ∃ lo k : Nat, z i = (lo : Int) ∧ z (i + 1) = ((lo + k : Nat) : Int) ∧ lo + k ≤ M := by
  have hle : ∀ j, j ≤ N → ∀ i, i ≤ j → z i ≤ z j := by
    intro j
    induction j with
    | zero => intro _ i hi; obtain rfl : i = 0 := by omega
              exact Int.le_refl _
    | succ j ih =>
      intro hj i hi
      by_cases e : i = j + 1
      · subst e; exact Int.le_refl _
      · exact Int.le_trans (ih (by omega) i (by omega)) (h.mono j (by omega))
  have h0 := hle i (by omega) 0 (by omega)
  have h1 := h.mono i hi
  have h2 := hle N (Nat.le_refl _) (i + 1) (by omega)
  have h3 := h.last
  have h4 := h.zero
  exact ⟨(z i).toNat, (z (i + 1) - z i).toNat, by omega, by omega, by omega⟩

theorem renamed_txn {n items M N : Nat} {rS rI wS wI rS2 wS2 wI2 : Nat → Int} (H : Renamed n items M N rS rI wS wI rS2 wS2 wI2) {s1 s2 : St} (h : Rel items s1 s2) {t : Nat} (ht : t < n) (rI2 : Nat → Int) :
    Rel items (txn rS rI wS wI t s1) (txn rS2 rI2 wS2 wI2 t s2) := by
  obtain ⟨rlo, nr, re1, re2, re3⟩ := starts_at H.rs ht
  obtain ⟨wlo, nw, we1, we2, we3⟩ := starts_at H.ws ht
  have ep : part items rS rI wS wI t = (List.range nr).map (fun k => (items : Int) - 1 - rI (rlo + k)) ++ (List.range nw).map (fun k => (items : Int) - 1 - wI (wlo + k)) := by
    unfold part
    rw [re1, re2, we1, we2, show (((rlo + nr : Nat) : Int) - (rlo : Int)).toNat = nr by omega, show (((wlo + nw : Nat) : Int) - (wlo : Int)).toNat = nw by omega]
    rfl
  have el : (part items rS rI wS wI t).length = nr + nw := by rw [ep]; simp
  obtain ⟨L, hL⟩ : ∃ L, L = (parts items rS rI wS wI t).length := ⟨_, rfl⟩
  have w21 : wS2 t = (L : Int) := by rw [H.w2 t (by omega), hL]
  have w22 : wS2 (t + 1) = ((L + (nr + nw) : Nat) : Int) := by
    rw [H.w2 (t + 1) (by omega)]
    show ((parts items rS rI wS wI t ++ part items rS rI wS wI t).length : Int) = _
    rw [List.length_append, el, ← hL]
  have hat : ∀ k, k < nr + nw → wI2 (L + k) = (part items rS rI wS wI t).getD k 0 := by
    intro k hk
    rw [← el] at hk
    rw [← parts_at items rS rI wS wI ht hk, ← hL]
    apply H.i2
    obtain ⟨R, hR⟩ := parts_prefix items rS rI wS wI (t + 1) (n - (t + 1))
    rw [show t + 1 + (n - (t + 1)) = n by omega] at hR
    rw [hR]
    show L + k < ((parts items rS rI wS wI t ++ part items rS rI wS wI t) ++ R).length
    simp
    omega
  have e1 : txn rS rI wS wI t s1 = linkN (fun k => (wI (wlo + k)).toNat) t nw (linkN (fun k => (rI (rlo + k)).toNat) t nr s1) := by
    unfold txn
    rw [re1, re2, we1, we2, show (((wlo + nw : Nat) : Int) - (wlo : Int)).toNat = nw by omega, show (((rlo + nr : Nat) : Int) - (rlo : Int)).toNat = nr by omega]
    rfl
  have e2 : txn rS2 rI2 wS2 wI2 t s2 = linkN (fun k => (wI2 (L + (nr + k))).toNat) t nw (linkN (fun k => (wI2 (L + k)).toNat) t nr s2) := by
    unfold txn
    rw [H.r2 t (by omega), H.r2 (t + 1) (by omega), w21, w22, show (((L + (nr + nw) : Nat) : Int) - (L : Int)).toNat = nr + nw by omega]
    show linkN (fun k => (wI2 ((L : Int).toNat + k)).toNat) t (nr + nw) s2 = _
    rw [linkN_add]
    rfl
  rw [e1, e2]
  have h1 := h.linkN t (fun k => (rI (rlo + k)).toNat) (fun k => (wI2 (L + k)).toNat) nr (fun i hi => by
    have hr := H.ri (rlo + i) (by omega)
    refine ⟨by omega, ?_⟩
    show (wI2 (L + i)).toNat = _
    rw [hat i (by omega), ep]
    simp [List.getD, List.getElem?_append, hi]
    omega)
  exact h1.linkN t _ _ nw (fun i hi => by
    have hr := H.wi (wlo + i) (by omega)
    refine ⟨by show (wI (wlo + i)).toNat < items; omega, ?_⟩
    show (wI2 (L + (nr + i))).toNat = items - 1 - (wI (wlo + i)).toNat
    rw [hat (nr + i) (by omega), ep]
    simp [List.getD, hi]
    omega)

theorem renamed_upTo {n items M N : Nat} {rS rI wS wI rS2 wS2 wI2 : Nat → Int} (H : Renamed n items M N rS rI wS wI rS2 wS2 wI2) (rI2 : Nat → Int) (lo : Nat) : ∀ j, lo + j ≤ n → Rel items (upTo rS rI wS wI lo j) (upTo rS2 rI2 wS2 wI2 lo j)
  | 0, _ => ⟨rfl, fun _ _ => rfl⟩
  | j + 1, hj => renamed_txn H (renamed_upTo H rI2 lo j (by omega)) (by omega) rI2

theorem renamed_comps {n items M N : Nat} {rS rI wS wI rS2 wS2 wI2 : Nat → Int} (H : Renamed n items M N rS rI wS wI rS2 wS2 wI2) (rI2 : Nat → Int) (lo : Nat) : comps rS2 rI2 wS2 wI2 lo n = comps rS rI wS wI lo n := by
  unfold comps
  by_cases h : lo ≤ n
  · rw [(renamed_upTo H rI2 lo (n - lo) (by omega)).1]
  · rw [show n - lo = 0 by omega]
    rfl
end Go.Uf

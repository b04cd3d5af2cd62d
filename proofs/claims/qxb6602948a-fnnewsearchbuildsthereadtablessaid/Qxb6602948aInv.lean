import Derived.Test.Qxb6602948aKit
import Derived.Orders
/- A REGION THAT DRAWS ITS ORDER, BY AN INVARIANT OVER WHAT HAS BEEN CARRIED OUT. No program in sight. -/
namespace Go.Kx
open Go.RowKit
set_option linter.unusedVariables false

section
variable {P : Program} {ops : Array Oper} {Q : Exit → Act → World → Prop} {md : Region.Mode}

theorem count_turn {l : Array Bool} {i : Nat} (h : l.getD i true = false) : (l.setIfInBounds i true).toList.count false + 1 = l.toList.count false := by
  have hi : i < l.size := by
    rcases Nat.lt_or_ge i l.size with h' | h'
    · exact h'
    · simp [Array.getElem?_eq_none h'] at h
  have hv : l.toList[i]'(by simpa using hi) = false := by simpa [Array.getD, hi] using h
  rw [Array.toList_setIfInBounds, List.count_set (by simpa using hi), hv]
  have : 0 < l.toList.count false := List.count_pos_iff.2 (by rw [← hv]; exact List.getElem_mem _)
  have e : (l.toList.count false - 1 + 0) + 1 = l.toList.count false := by omega
  exact e

theorem wpAny_inv (I : Array Bool → Act → World → Prop)
    (hstep : ∀ listed a w i o, I listed a w → ops[i]? = some o → listed.getD i true = false → (∀ e ∈ o.after, Region.binds md e = true → listed.getD e.on false = true) → wpOp P ops Q i (fun a' w' => I (listed.setIfInBounds i true) a' w') a w)
    (hstop : ∀ listed a w, I listed a w → Region.ready md ops listed = [] → Q .normal a w) :
    ∀ fuel listed a w, I listed a w → listed.toList.count false ≤ fuel → wpAny P md ops Q fuel listed a w
  | 0, listed, a, w, hI, hc => by
    have hr : Region.ready md ops listed = [] := by
      apply List.eq_nil_iff_forall_not_mem.2
      intro i hi
      have := count_turn (mem_ready.1 hi).1
      omega
    exact ⟨hr, hstop _ _ _ hI hr⟩
  | fuel + 1, listed, a, w, hI, hc => by
    refine ⟨fun hr => hstop _ _ _ hI hr, fun i hi => ?_⟩
    obtain ⟨h0, o, ho, hall⟩ := mem_ready.1 hi
    refine wpOp_mono (fun a' w' h => wpAny_inv I hstep hstop fuel _ a' w' h ?_) (hstep listed a w i o hI ho h0 hall)
    have := count_turn h0
    omega

theorem wp_region_inv {id : Nat} {a : Act} {w : World} (hm : P.follows .mixedOrders = true) (I : Array Bool → Act → World → Prop)
    (hstart : I (Array.replicate ops.size false) a { w with drawn := w.drawn + 1 })
    (hstep : ∀ listed a w i o, I listed a w → ops[i]? = some o → listed.getD i true = false → (∀ e ∈ o.after, Region.binds .any e = true → listed.getD e.on false = true) → wpOp P ops Q i (fun a' w' => I (listed.setIfInBounds i true) a' w') a w)
    (hstop : ∀ listed a w, I listed a w → Region.ready .any ops listed = [] → Q .normal a w) : (Code.region id ops true).wp P Q a w :=
  wp_region_any hm (wpAny_inv I hstep hstop _ _ _ _ hstart (by simp))

/-! ### a frame with some slots open -/
def fr (base : Act) (x : Nat → Value) : List Nat → Act
  | [] => base
  | d :: D => (fr base x D).put (some d) (x d)

theorem fr_congr {base : Act} {x y : Nat → Value} : ∀ {D : List Nat}, (∀ d, d ∈ D → x d = y d) → fr base x D = fr base y D
  | [], _ => rfl
  | d :: D, h => by
    show (fr base x D).put (some d) (x d) = (fr base y D).put (some d) (y d)
    rw [fr_congr (fun e he => h e (by simp [he])), h d (by simp)]

theorem put_put (a : Act) (d : Nat) (u v : Value) : (a.put (some d) u).put (some d) v = a.put (some d) v := by
  unfold Act.put
  simp

theorem fr_put {base : Act} {x : Nat → Value} {d : Nat} (v : Value) : ∀ {D : List Nat}, D.Nodup → d ∈ D → (fr base x D).put (some d) v = fr base (upd x d v) D
  | [], _, h => by simp at h
  | e :: D, hn, h => by
    rw [List.nodup_cons] at hn
    show ((fr base x D).put (some e) (x e)).put (some d) v = (fr base (upd x d v) D).put (some e) (upd x d v e)
    by_cases q : d = e
    · subst q
      rw [put_put, upd_same]
      congr 1
      exact fr_congr fun s hs => (upd_ne x v (fun q => hn.1 (by rw [← q]; exact hs))).symm
    · have hd : d ∈ D := by simpa [q] using h
      rw [Act.put_comm _ _ _ (by intro d' hd'; simp at hd'; subst hd'; simp; exact q), fr_put v hn.2 hd, upd_ne x v (fun h => q h.symm)]

theorem put_size (a : Act) (d : Option Tmp) (v : Value) : (a.put d v).tmps.size = a.tmps.size := by
  cases d with
  | none => rfl
  | some d => simp [Act.put]

theorem fr_size (base : Act) (x : Nat → Value) : ∀ (D : List Nat), (fr base x D).tmps.size = base.tmps.size
  | [] => rfl
  | d :: D => by show ((fr base x D).put (some d) (x d)).tmps.size = _; rw [put_size, fr_size base x D]

theorem eval_put_same (a : Act) {d : Nat} (v : Value) (h : d < a.tmps.size) : (a.put (some d) v).eval (.tmp d) = v := by
  simp [Act.put, Act.eval, h]

theorem fr_in {base : Act} {x : Nat → Value} {d : Nat} (hs : d < base.tmps.size) : ∀ {D : List Nat}, d ∈ D → (fr base x D).eval (.tmp d) = x d
  | [], h => by simp at h
  | e :: D, h => by
    show ((fr base x D).put (some e) (x e)).eval (.tmp d) = x d
    by_cases q : e = d
    · subst q; exact eval_put_same _ _ (by rw [fr_size]; exact hs)
    · rw [Act.eval_put (by intro d' hd'; simp at hd'; subst hd'; simp; exact fun h => q h.symm)]
      exact fr_in hs (by simpa [show d ≠ e from fun h => q h.symm] using h)

theorem fr_out {base : Act} {x : Nat → Value} {d : Nat} : ∀ {D : List Nat}, d ∉ D → (fr base x D).eval (.tmp d) = base.eval (.tmp d)
  | [], _ => rfl
  | e :: D, h => by
    simp at h
    show ((fr base x D).put (some e) (x e)).eval (.tmp d) = _
    rw [Act.eval_put (by intro d' hd'; simp at hd'; subst hd'; simp; exact h.1)]
    exact fr_out h.2
theorem put_self (a : Act) {d : Nat} (h : d < a.tmps.size) : a.put (some d) (a.eval (.tmp d)) = a := by
  cases a with
  | mk t ds =>
    simp only [Act.put, Act.eval]
    congr 1
    apply Array.ext
    · simp
    · intro i h1 h2
      by_cases e : d = i
      · subst e; simp [h2]
      · exact Array.getElem_setIfInBounds_ne h2 e

theorem fr_self {base : Act} : ∀ {D : List Nat}, (∀ d, d ∈ D → d < base.tmps.size) → fr base (fun d => base.eval (.tmp d)) D = base
  | [], _ => rfl
  | d :: D, h => by
    show (fr base (fun d => base.eval (.tmp d)) D).put (some d) (base.eval (.tmp d)) = base
    rw [fr_self (fun e he => h e (by simp [he]))]
    exact put_self base (h d (by simp))
end
end Go.Kx

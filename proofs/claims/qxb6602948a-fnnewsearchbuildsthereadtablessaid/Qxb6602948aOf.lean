import Derived.Test.Qxb6602948aHist
namespace Go.Proofs.Qxb6602948a
open Go.RowKit Go.Kx
set_option linter.unusedVariables false

theorem add_add (x : Addr) (i j : Nat) : (x.add i).add j = x.add (i + j) := by
  obtain ⟨b, o, s⟩ := x
  unfold Addr.add
  by_cases hi : i = 0
  · subst hi; simp
  · by_cases hj : j = 0
    · subst hj; simp
    · cases s <;> simp_all <;> omega

/-- items[lo:hi], one cell an element -/
theorem slice23 (a : Option Addr) (M c lo hi : Nat) (f : Nat → Value) (hn : a = none → M = 0 ∧ c = 0) (hc : M ≤ c) (h1 : lo ≤ hi) (h2 : hi ≤ M) (hm : c ≤ 1048576) :
    ∃ a' c', (∀ W, (Instr.slice 23 (.slice a M c) (some (.int .i64 (lo : Int))) (some (.int .i64 (hi : Int))) none).run Try.prog W = .ok (.slice a' (hi - lo) c') W) ∧ ∀ W, Rw W a M c f → Rw W a' (hi - lo) c' (fun j => f (lo + j)) := by
  have hs : ∀ W : World, (sizeOf (Try.prog.elem 23)).run Try.prog W = .ok 1 W := fun W => by kernel_rfl
  have hr : ∀ W : World, (Instr.slice 23 (.slice a M c) (some (.int .i64 (lo : Int))) (some (.int .i64 (hi : Int))) none).run Try.prog W = .ok (sliced a lo hi c 1) W := by
    intro W
    rw [run_slice_lh (P := Try.prog) W 23 a M c Try.underlying23 .i64 .i64 lo hi (by omega) (by omega) (by omega), hs W]
    rfl
  cases a with
  | none =>
    obtain ⟨rfl, rfl⟩ := hn rfl
    obtain rfl : hi = 0 := by omega
    obtain rfl : lo = 0 := by omega
    exact ⟨none, 0, hr, fun W _ => ⟨fun _ => ⟨rfl, rfl⟩, by simp⟩⟩
  | some x =>
    have e : sliced (some x) lo hi c 1 = .slice (some (if c = lo then x else x.add lo)) (hi - lo) (c - lo) := by
      unfold sliced
      by_cases q : c = lo
      · simp [q]
      · simp [q]; try omega
    refine ⟨_, _, fun W => (hr W).trans (by rw [e]), fun W h => ⟨by simp, fun y hy j hj => ?_⟩⟩
    obtain rfl := Option.some.inj hy
    have q : ¬ c = lo := by omega
    rw [if_neg q, add_add]
    exact h.2 x rfl (lo + j) (by omega)

/-- items[lo:hi], two cells an element -/
theorem slice57 (a : Option Addr) (M c lo hi : Nat) (f g : Nat → Value) (hn : a = none → M = 0 ∧ c = 0) (hc : M ≤ c) (h1 : lo ≤ hi) (h2 : hi ≤ M) (hm : c ≤ 1048576) :
    ∃ a' c', (∀ W, (Instr.slice 57 (.slice a M c) (some (.int .i64 (lo : Int))) (some (.int .i64 (hi : Int))) none).run Try.prog W = .ok (.slice a' (hi - lo) c') W) ∧ ∀ W, Rw2 W a M c f g → Rw2 W a' (hi - lo) c' (fun j => f (lo + j)) (fun j => g (lo + j)) := by
  have hs : ∀ W : World, (sizeOf (Try.prog.elem 57)).run Try.prog W = .ok 2 W := fun W => by kernel_rfl
  have hr : ∀ W : World, (Instr.slice 57 (.slice a M c) (some (.int .i64 (lo : Int))) (some (.int .i64 (hi : Int))) none).run Try.prog W = .ok (sliced a lo hi c 2) W := by
    intro W
    rw [run_slice_lh (P := Try.prog) W 57 a M c Try.underlying57 .i64 .i64 lo hi (by omega) (by omega) (by omega), hs W]
    rfl
  cases a with
  | none =>
    obtain ⟨rfl, rfl⟩ := hn rfl
    obtain rfl : hi = 0 := by omega
    obtain rfl : lo = 0 := by omega
    exact ⟨none, 0, hr, fun W _ => ⟨fun _ => ⟨rfl, rfl⟩, by simp⟩⟩
  | some x =>
    have e : sliced (some x) lo hi c 2 = .slice (some (if c = lo then x else x.add (lo * 2))) (hi - lo) (c - lo) := by
      unfold sliced
      by_cases q : c = lo
      · simp [q]
      · simp [q]; try omega
    refine ⟨_, _, fun W => (hr W).trans (by rw [e]), fun W h => ⟨by simp, fun y hy j hj => ?_⟩⟩
    obtain rfl := Option.some.inj hy
    have q : ¬ c = lo := by omega
    have hh := h.2 x rfl (lo + j) (by omega)
    rw [if_neg q, add_add, add_add, show lo * 2 + 2 * j = 2 * (lo + j) by omega, show lo * 2 + (2 * j + 1) = 2 * (lo + j) + 1 by omega]
    exact hh

theorem of34 (aS : Option Addr) (L cS : Nat) (zS : Nat → Int) (a : Option Addr) (M c i lo hi : Nat) (f : Nat → Value) (w : World) (rS : Rw w aS L cS (ints .i64 zS)) (hn : a = none → M = 0 ∧ c = 0) (hc : M ≤ c) (hm : c ≤ 1048576) (hL : L ≤ 1048576) (hi1 : i + 1 < L) (e1 : zS i = (lo : Int)) (e2 : zS (i + 1) = (hi : Int)) (h1 : lo ≤ hi) (h2 : hi ≤ M) :
    Calls Try.prog 34 #[.agg #[.slice aS L cS, .slice a M c], .int .i64 (i : Nat)] w fun e w' => ∃ a' c', e = .returned (.slice a' (hi - lo) c') ∧ (∀ W, Rw W a M c f → Rw W a' (hi - lo) c' (fun j => f (lo + j))) ∧ Below w.heap.size w w' := by
  obtain ⟨a', c', hsl, hrw⟩ := slice23 a M c lo hi f hn hc h1 h2 hm
  obtain ⟨bS, oS, rfl, ltS, dS⟩ := rS.plain (by omega)
  have k0 : w.cell? ⟨bS, oS + i, none⟩ = some (.int .i64 (lo : Int)) := by rw [dS i (by omega)]; show some (Value.int .i64 (zS i)) = _; rw [e1]
  have k1 : w.cell? ⟨bS, oS + (i + 1), none⟩ = some (.int .i64 (hi : Int)) := by rw [dS (i + 1) (by omega)]; show some (Value.int .i64 (zS (i + 1))) = _; rw [e2]
  have k2 : (i : Int) < (L : Int) := by omega
  have k3 : (i : Int) + 1 < (L : Int) := by omega
  have k4 : IntKind.i64.wrap ((i : Int) + 1) = (i : Int) + 1 := by rw [IntKind.wrap_i64]; omega
  have HR : Hid (∀ W, Rw W a M c f → Rw W a' (hi - lo) c' (fun j => f (lo + j))) := hrw
  clear dS e1 e2 hrw hn
  go_enter Try.func34, Try.ntmps34
  go_wp2
  go_quiet (fail)
  go_wp2
  go_ret
  have hb : Below w.heap.size w ((w.alloc (.cells #[.slice (some ⟨bS, oS, none⟩) L cS, .slice a M c] 52)).drewN nq) := below_drewN ((Below.refl _ _).alloc (Nat.le_refl _) _) _
  exact ⟨a', c', rfl, HR.out, hb⟩

theorem of40 (aS : Option Addr) (L cS : Nat) (zS : Nat → Int) (a : Option Addr) (M c i lo hi : Nat) (f g : Nat → Value) (w : World) (rS : Rw w aS L cS (ints .i64 zS)) (hn : a = none → M = 0 ∧ c = 0) (hc : M ≤ c) (hm : c ≤ 1048576) (hL : L ≤ 1048576) (hi1 : i + 1 < L) (e1 : zS i = (lo : Int)) (e2 : zS (i + 1) = (hi : Int)) (h1 : lo ≤ hi) (h2 : hi ≤ M) :
    Calls Try.prog 40 #[.agg #[.slice aS L cS, .slice a M c], .int .i64 (i : Nat)] w fun e w' => ∃ a' c', e = .returned (.slice a' (hi - lo) c') ∧ (∀ W, Rw2 W a M c f g → Rw2 W a' (hi - lo) c' (fun j => f (lo + j)) (fun j => g (lo + j))) ∧ Below w.heap.size w w' := by
  obtain ⟨a', c', hsl, hrw⟩ := slice57 a M c lo hi f g hn hc h1 h2 hm
  obtain ⟨bS, oS, rfl, ltS, dS⟩ := rS.plain (by omega)
  have k0 : w.cell? ⟨bS, oS + i, none⟩ = some (.int .i64 (lo : Int)) := by rw [dS i (by omega)]; show some (Value.int .i64 (zS i)) = _; rw [e1]
  have k1 : w.cell? ⟨bS, oS + (i + 1), none⟩ = some (.int .i64 (hi : Int)) := by rw [dS (i + 1) (by omega)]; show some (Value.int .i64 (zS (i + 1))) = _; rw [e2]
  have k2 : (i : Int) < (L : Int) := by omega
  have k3 : (i : Int) + 1 < (L : Int) := by omega
  have k4 : IntKind.i64.wrap ((i : Int) + 1) = (i : Int) + 1 := by rw [IntKind.wrap_i64]; omega
  have HR : Hid (∀ W, Rw2 W a M c f g → Rw2 W a' (hi - lo) c' (fun j => f (lo + j)) (fun j => g (lo + j))) := hrw
  clear dS e1 e2 hrw hn
  go_enter Try.func40, Try.ntmps40
  go_wp2
  go_quiet (fail)
  go_wp2
  go_ret
  have hb : Below w.heap.size w ((w.alloc (.cells #[.slice (some ⟨bS, oS, none⟩) L cS, .slice a M c] 61)).drewN nq) := below_drewN ((Below.refl _ _).alloc (Nat.le_refl _) _) _
  exact ⟨a', c', rfl, HR.out, hb⟩
end Go.Proofs.Qxb6602948a

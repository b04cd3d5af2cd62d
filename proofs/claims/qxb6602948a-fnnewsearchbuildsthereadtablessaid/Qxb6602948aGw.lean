import Derived.Test.Qxb6602948aPx
import Derived.Lib.AppendZeros
namespace Go.Proofs.Qxb6602948a
open Go.RowKit Go.Kx
set_option linter.unusedVariables false

def GrowPost (N : Nat) (w : World) (e : Ending) (w' : World) : Prop := ∃ (a : Option Addr) (cap : Nat), e = .returned (.slice a 0 cap) ∧ N ≤ cap ∧ (N = 0 → a = none ∧ cap = 0 ∧ w' = w) ∧ (0 < N → a = some ⟨w.heap.size, 0, none⟩ ∧ Blk w' w.heap.size (rowOf (fun _ => .int .i64 0) cap) 3 ∧ w'.heap.size = w.heap.size + 1) ∧ Below w.heap.size w w'

theorem zeros_row (N c : Nat) (h : N ≤ c) : Builtin.zeroCells #[.int .i64 0] N ++ Builtin.zeroCells #[.int .i64 0] (c - N) = rowOf (fun _ => .int .i64 0) c := by
  apply Array.ext
  · simp [Builtin.zeroCells, rowOf]; omega
  · intro j h1 h2
    simp only [Builtin.zeroCells, rowOf, Array.getElem_append]
    split <;> simp [Nat.mod_one]

set_option maxHeartbeats 400000 in
theorem grow_any (N : Nat) (w : World) (hN : N ≤ 1048576) : Calls Try.prog 45 #[.slice none 0 0, .int .i64 (N : Int)] w fun e w' => GrowPost N w e w' := by
  obtain ⟨i, hi, hz0, hz1, hz2⟩ := info_parts info3
  by_cases h0 : N = 0
  · subst h0
    go_enter Try.func45, Try.ntmps45
    go_wp2
    go_ret
    exact ⟨none, 0, rfl, Nat.le_refl _, fun _ => ⟨rfl, rfl, rfl⟩, fun h => by omega, Below.refl _ _⟩
  · have k1 : ¬ ((N : Int) < 0) := by omega
    have k2 : (0 : Int) < (N : Int) := by omega
    go_enter Try.func45, Try.ntmps45
    go_wp2_with (at_builtin; refine Lib.wpList_append_run _ rfl (.tmp 20) (.tmp 21) 22 3 rfl (.slice none 0 0) (.int .i64 (N : Int)) rfl rfl _ _ (Lib.run_append_nil_zeros _ 22 3 _ 3 i (.int .i64 0) .i64 .i64 Try.underlying22 Try.underlying3 hi hz0 N (by omega) (by omega) (by omega) (by rw [hz2]; omega)) ?_)
    go_ret
    have hge := grownCap_ge w N 0 3
    refine ⟨_, _, rfl, hge, fun h => absurd h h0, fun _ => ⟨rfl, ?_, by simp⟩, (below_alloc (Below.refl _ _) _).drew⟩
    have hb := (Blk.new w (Builtin.zeroCells #[.int .i64 0] N ++ Builtin.zeroCells #[.int .i64 0] (grownCap w N 0 3 - N)) 3).drew
    exact hb.congr (zeros_row N (grownCap w N 0 3) hge)
end Go.Proofs.Qxb6602948a

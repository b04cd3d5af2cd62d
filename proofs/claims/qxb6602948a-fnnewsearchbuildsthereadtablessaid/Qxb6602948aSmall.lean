import Derived.Test.Qxb6602948aBase
namespace Go.Proofs.Qxb6602948a
open Go.RowKit Go.Kx
set_option linter.unusedVariables false

/-- some bool, nothing turned -/
def SomeBool (w : World) (e : Ending) (w' : World) : Prop := ∃ b, e = .returned (.bool b) ∧ w = w'

set_option maxRecDepth 100000 in
set_option maxHeartbeats 400000 in
theorem bytes7 (T V : Int) (a1 a2 a3 a4 a5 a6 a8 : Option Addr) (n1 n2 n3 n4 n5 n6 n8 c1 c2 c3 c4 c5 c6 c8 : Nat) (w : World) :
    Calls Try.prog 7 #[.int .i64 T, .slice a1 n1 c1, .slice a2 n2 c2, .slice a3 n3 c3, .slice a4 n4 c4, .slice a5 n5 c5, .slice a6 n6 c6, .int .i64 V, .slice a8 n8 c8] w fun e w' => SomeBool w e w' := by
  go_enter Try.func7, Try.ntmps7
  go_wp2
  all_goals go_ret
  all_goals exact ⟨_, rfl, rfl⟩

theorem place0 (T P u : Int) (w : World) (h1 : 0 ≤ T) (h2 : T ≤ 16384) (h3 : 0 ≤ P) (h4 : P ≤ 16384) (h : T ≤ u) (h' : u < T + P) :
    Calls Try.prog 14 #[.int .i64 T, .int .i64 P, .int .i64 u] w fun e w' => e = .returned (.tuple #[.int .i64 0, .int .i64 (u - T)]) ∧ w' = w := by
  go_enter Try.func14, Try.ntmps14
  go_wp2
  go_ret2
  exact ⟨rfl, rfl⟩
theorem place1 (T P u : Int) (w : World) (h1 : 0 ≤ T) (h2 : T ≤ 16384) (h3 : 0 ≤ P) (h4 : P ≤ 16384) (h : T + P ≤ u) (h' : u < T + 2 * P) :
    Calls Try.prog 14 #[.int .i64 T, .int .i64 P, .int .i64 u] w fun e w' => e = .returned (.tuple #[.int .i64 1, .int .i64 (u - T - P)]) ∧ w' = w := by
  go_enter Try.func14, Try.ntmps14
  go_wp2
  go_ret2
  exact ⟨rfl, rfl⟩
theorem place2 (T P u : Int) (w : World) (h1 : 0 ≤ T) (h2 : T ≤ 16384) (h3 : 0 ≤ P) (h4 : P ≤ 16384) (h : T + 2 * P ≤ u) (h' : u < T + 3 * P) :
    Calls Try.prog 14 #[.int .i64 T, .int .i64 P, .int .i64 u] w fun e w' => e = .returned (.tuple #[.int .i64 2, .int .i64 (u - T - 2 * P)]) ∧ w' = w := by
  go_enter Try.func14, Try.ntmps14
  go_wp2
  go_ret2
  exact ⟨rfl, rfl⟩

/-- kind and place of a node u = T + k * P + q -/
theorem place_any (T P k q : Nat) (u : Int) (w : World) (h2 : T ≤ 16384) (h4 : P ≤ 16384) (hk : k < 3) (hq : q < P) (hu : u = (T : Int) + (k : Int) * (P : Int) + (q : Int)) :
    Calls Try.prog 14 #[.int .i64 T, .int .i64 P, .int .i64 u] w fun e w' => e = .returned (.tuple #[.int .i64 k, .int .i64 q]) ∧ w' = w := by
  have hk' : k = 0 ∨ k = 1 ∨ k = 2 := by omega
  rcases hk' with rfl | rfl | rfl
  · refine (place0 T P u w (by omega) (by omega) (by omega) (by omega) (by omega) (by omega)).mono ?_
    rintro e w' ⟨rfl, rfl⟩
    exact ⟨by rw [show u - (T : Int) = (q : Int) by omega]; rfl, rfl⟩
  · refine (place1 T P u w (by omega) (by omega) (by omega) (by omega) (by omega) (by omega)).mono ?_
    rintro e w' ⟨rfl, rfl⟩
    exact ⟨by rw [show u - (T : Int) - (P : Int) = (q : Int) by omega]; rfl, rfl⟩
  · refine (place2 T P u w (by omega) (by omega) (by omega) (by omega) (by omega) (by omega)).mono ?_
    rintro e w' ⟨rfl, rfl⟩
    exact ⟨by rw [show u - (T : Int) - 2 * (P : Int) = (q : Int) by omega]; rfl, rfl⟩

theorem mvsg_any (T : Nat) (a1 a2 a3 a4 a5 a6 : Option Addr) (n1 n2 n3 n4 n5 n6 c1 c2 c3 c4 c5 c6 : Nat) (w : World) :
    Calls Try.prog 12 #[.int .i64 T, .slice a1 n1 c1, .slice a2 n2 c2, .slice a3 n3 c3, .slice a4 n4 c4, .slice a5 n5 c5, .slice a6 n6 c6] w fun e w' =>
      e = .returned (.pointer (some ⟨w.heap.size, 0, none⟩)) ∧ w' = w.alloc (.cells #[.int .i64 T, .slice a1 n1 c1, .slice a2 n2 c2, .slice a3 n3 c3, .slice a4 n4 c4, .slice a5 n5 c5, .slice none 0 0, .slice a6 n6 c6, .slice none 0 0] 54) := by
  go_enter Try.func12, Try.ntmps12
  go_wp2
  go_ret
  exact ⟨rfl, rfl⟩

end Go.Proofs.Qxb6602948a

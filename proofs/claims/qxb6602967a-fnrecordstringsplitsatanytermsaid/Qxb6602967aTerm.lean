import Derived.Test.Qxb6602967aKit
import Derived.Test.Qxb6602967aBld
import Derived.Deep.QuietTactic
import Derived.BigQuiet
namespace Go.Proofs.Qxb6602967a
open Go.RowKit Go.Kx
set_option linter.unusedVariables false

def sgn (q : Int) : UInt8 := if q = 0 then 43 else if q = 1 then 63 else if q = 2 then 126 else 45
def tb (m : Bool) (q : Int) (t : ByteArray) : List UInt8 := if m = true ∧ q ≠ 0 then sgn q :: t.data.toList else t.data.toList
def TPost (m : Bool) (q : Int) (t : ByteArray) (w : World) (e : Ending) (w' : World) : Prop := ∃ u : ByteArray, e = .returned (.string u) ∧ u.data.toList = tb m q t ∧ Below w.heap.size w w'

theorem qual_any (q : Int) (hq : 0 ≤ q ∧ q ≤ 3) (w : World) : Calls Try.prog 43 #[.int .i64 q] w fun e w' => e = .returned (.string ⟨#[sgn q]⟩) ∧ w' = w := by
  have : q = 0 ∨ q = 1 ∨ q = 2 ∨ q = 3 := by omega
  rcases this with rfl | rfl | rfl | rfl
  · go_enter Try.func43, Try.ntmps43
    go_wp2
    go_ret
    exact ⟨rfl, rfl⟩
  · go_enter Try.func43, Try.ntmps43
    go_wp2
    go_ret
    exact ⟨rfl, rfl⟩
  · go_enter Try.func43, Try.ntmps43
    go_wp2
    go_ret
    exact ⟨rfl, rfl⟩
  · go_enter Try.func43, Try.ntmps43
    go_wp2
    go_ret
    exact ⟨rfl, rfl⟩

theorem qual_q (q : Int) (hq : 0 ≤ q ∧ q ≤ 3) (w : World) : Calls Try.prog 43 #[.int .i64 q] w fun e w' => e = .returned (.string ⟨#[sgn q]⟩) ∧ ∃ n, w' = w.drewN n :=
  (qual_any q hq w).mono fun e w' ⟨h1, h2⟩ => ⟨h1, 0, h2⟩

set_option maxRecDepth 100000 in
set_option maxHeartbeats 1000000 in
theorem term_any (m : Bool) (q : Int) (nm ar tx : ByteArray) (hq : m = true → 0 ≤ q ∧ q ≤ 3) (ht : tx.size ≤ 1048576) (w : World) :
    Calls Try.prog 40 #[.agg #[.bool m, .int .i64 q, .string nm, .string ar, .string tx]] w fun e w' => TPost m q tx w e w' := by
  by_cases hm : m = true ∧ q ≠ 0
  · obtain ⟨rfl, hne⟩ := hm
    have h3 := hq rfl
    have c0 : (q != 0) = true := by simp [hne]
    go_enter Try.func40, Try.ntmps40
    go_wp2
    go_quiet (refine Calls.quiet_of (qual_q q h3 _))
    go_wp2
    go_ret
    refine ⟨_, rfl, by simp [tb, hne], ?_⟩
    exact below_drewN (below_alloc (Below.refl _ _) _) _
  · cases m with
    | false =>
      go_enter Try.func40, Try.ntmps40
      go_wp2
      go_ret
      exact ⟨tx, rfl, by simp [tb], below_alloc (Below.refl _ _) _⟩
    | true =>
      obtain rfl : q = 0 := by simpa using hm
      go_enter Try.func40, Try.ntmps40
      go_wp2
      go_ret
      exact ⟨tx, rfl, by simp [tb], below_alloc (Below.refl _ _) _⟩
end Go.Proofs.Qxb6602967a

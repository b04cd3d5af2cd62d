import Derived.Test.Qxb6602948aRows
import Derived.Test.Qxb6602948aBase
import Derived.ProofKit
import Derived.OpenShut
import Derived.ShutString
import Derived.ChangeOld
import Derived.Below
import Derived.Deep.Grids
namespace Go.Proofs.Qxb6602948a
open Go.ChangeShapes Go.WideShapes Go.ChangeAt Go.RowKit Go.Kx
set_option linter.unusedVariables false

theorem own : ownKnob Try.prog.godebug = none := by kernel_rfl
theorem laidOut : laidOutB Try.prog = true := by kernel_rfl

section
variable {H : Type} {enc : TypeId × Value → H} {W : World} {base : Nat} {held : Bool} {d : DataW H} {p : List MemPlace}

theorem open_row {t e : TypeId} {k : IntKind} {a : Option Addr} {n c : Nat} (ht : Try.prog.underlying t = some (.slice e)) (he : Try.prog.underlying e = some (.int k)) (hc : Try.prog.cellsOf e = 1) (h0 : (Lit.int k 0).wf = true)
    (h : DataW.Trod enc Try.prog W base (fun _ => true) held t (.slice a n c) d p) : ∃ z : Nat → Int, Rw W a n c (fun j => .int k (z j)) ∧ ∀ j, (Lit.int k (z j)).wf = true := by
  obtain ⟨fuel, hf⟩ := h
  rcases open_ints ht he hc hf with ⟨hcs, _⟩ | ⟨x, l, c, zs, hcs, _, hl, hm, hz, _, hcell, hwz⟩
  · simp [Value.cells] at hcs
    obtain ⟨rfl, rfl, rfl⟩ := hcs
    exact ⟨fun _ => 0, Rw.nil _ _, fun _ => h0⟩
  · simp [Value.cells] at hcs
    obtain ⟨rfl, rfl, rfl⟩ := hcs
    simp only [if_true] at hz
    refine ⟨fun j => zs.getD j 0, ⟨by simp, fun y hy j hj => ?_⟩, fun j => ?_⟩
    · obtain rfl := Option.some.inj hy
      exact hcell j (by omega)
    · by_cases hj : j < zs.length
      · exact hwz _ (by simp [List.getD, hj])
      · simp [List.getD, hj, h0]

theorem open_brow {t e : TypeId} {a : Option Addr} {n c : Nat} (ht : Try.prog.underlying t = some (.slice e)) (he : Try.prog.underlying e = some .bool) (hc : Try.prog.cellsOf e = 1)
    (h : DataW.Trod enc Try.prog W base (fun _ => true) held t (.slice a n c) d p) : ∃ z : Nat → Bool, Rw W a n c (fun j => .bool (z j)) := by
  obtain ⟨fuel, hf⟩ := h
  rcases Go.Deep.open_bools ht he hc hf with ⟨hcs, _⟩ | ⟨x, l, c, B, hcs, _, hl, hm, _, hcell⟩
  · simp [Value.cells] at hcs
    obtain ⟨rfl, rfl, rfl⟩ := hcs
    exact ⟨fun _ => false, Rw.nil _ _⟩
  · simp [Value.cells] at hcs
    obtain ⟨rfl, rfl, rfl⟩ := hcs
    refine ⟨B, by simp, fun y hy j hj => ?_⟩
    obtain rfl := Option.some.inj hy
    exact hcell j (by omega)

theorem i32_of {z : Nat → Int} (h : ∀ j, (Lit.int .i32 (z j)).wf = true) : ∀ j, -2147483648 ≤ z j ∧ z j ≤ 2147483647 := fun j => by
  have := bounds_i32 (h j)
  omega
end
end Go.Proofs.Qxb6602948a

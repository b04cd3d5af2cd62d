import Derived.Test.Qxb6602948aClone
namespace Go.Proofs.Qxb6602948a
open Go.RowKit Go.Kx
set_option linter.unusedVariables false

theorem Cloned.rw {e : TypeId} {w w' : World} {a a' : Option Addr} {n c' : Nat} {f : Nat → Value} (h : Cloned e w w' a a' n c' f) : Rw w' a' n c' f := by
  rcases h.2 with ⟨_, rfl, rfl, rfl, _⟩ | ⟨_, rfl, rfl, hb⟩
  · exact Rw.nil _ _
  · exact Rw.of_blk hb (Nat.le_refl _)
theorem Cloned.cap {e : TypeId} {w w' : World} {a a' : Option Addr} {n c' : Nat} {f : Nat → Value} (h : Cloned e w w' a a' n c' f) : c' = n := by
  rcases h.2 with ⟨_, _, rfl, rfl, _⟩ | ⟨_, _, rfl, _⟩ <;> rfl
end Go.Proofs.Qxb6602948a

import Derived.Test.Qxb6602948aBase
namespace Go.Proofs.Qxb6602948a
open Go.RowKit Go.Kx
set_option linter.unusedVariables false

set_option maxRecDepth 100000 in
set_option maxHeartbeats 1000000 in
theorem parts_any (S : Nat) (v0 v1 v2 v3 v4 v5 v6 v7 v8 v9 v10 : Value) (w : World) (h : Blk w S #[v0, v1, v2, v3, v4, v5, v6, v7, v8, v9, v10] 67) :
    Calls Try.prog 25 #[.pointer (some ⟨S, 0, none⟩)] w fun e w' => e = .returned (.tuple #[v0, v1, v2, v3, v4, v5, v6, v7, v8, v9, v10]) ∧ ∃ m, w' = w.drewN m := by
  have c0 := h.cell 0
  have c1 := h.cell 1
  have c2 := h.cell 2
  have c3 := h.cell 3
  have c4 := h.cell 4
  have c5 := h.cell 5
  have c6 := h.cell 6
  have c7 := h.cell 7
  have c8 := h.cell 8
  have c9 := h.cell 9
  have c10 := h.cell 10
  clear h
  go_enter Try.func25, Try.ntmps25
  go_wp2
  go_quiet (fail)
  go_wp2
  exact bodyPost_ret (v := .tuple #[v0, v1, v2, v3, v4, v5, v6, v7, v8, v9, v10]) (by simp [results, Try.results25]) rfl ⟨rfl, _, rfl⟩
end Go.Proofs.Qxb6602948a

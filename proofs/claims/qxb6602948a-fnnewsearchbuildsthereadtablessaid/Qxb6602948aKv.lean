import Derived.Test.Qxb6602948aOpen
import Derived.Maps.OwnSet
import Derived.Maps.OwnOps
import Derived.DeepKeys4
namespace Go.Proofs.Qxb6602948a
open Go.RowKit Go.Kx Go.Maps
set_option linter.unusedVariables false

theorem key_two {P : Program} {k e : TypeId} {f g : Field} (hu : P.underlying k = some (.struct #[f, g])) (hf : f.type = e) (hg : g.type = e) (of : f.offset = 0) (og : g.offset = 1) (nf : (f.name != "_") = true) (ng : (g.name != "_") = true)
    (he : P.underlying e = some (.int .i32)) (hc : P.cellsOf k = 2) (hce : P.cellsOf e = 1) (hkt : P.keyType k = true) (hsz : 0 < P.types.size) (a b : Int) (ha : (Lit.int .i32 a).wf = true) (hb : (Lit.int .i32 b).wf = true) :
    keyOf P k (.agg #[.int .i32 a, .int .i32 b]) = some (.string (keyBytes [.int .i32 a, .int .i32 b])) := by
  obtain ⟨m, hm⟩ : ∃ m, P.types.size = m + 1 := ⟨P.types.size - 1, by omega⟩
  have hform : (Value.agg #[.int .i32 a, .int .i32 b]).formed P k = true := by simp [Value.formed, hu, hc]
  have h1 : ∀ z, (Lit.int .i32 z).wf = true → P.keyLits (m + 1) e [.int .i32 z] = some [.int .i32 z] := fun z hz => by simp [Program.keyLits, he, hz]
  have h2 : P.keyLits (m + 1 + 1) k [.int .i32 a, .int .i32 b] = some [.int .i32 a, .int .i32 b] := by
    unfold Program.keyLits
    simp only [hu]
    rw [if_pos ⟨by simp [hc], by simp [Array.all, nf, ng]⟩]
    simp [hf, hg, of, og, hce, h1 a ha, h1 b hb]
  unfold keyOf
  simp only [hu, hkt, hform, hm, Bool.and_self, if_true]
  show Option.map _ (P.keyLits (m + 1 + 1) k [.int .i32 a, .int .i32 b]) = _
  rw [h2]
  rfl

theorem row59 : (59 : TypeId) < Try.prog.types.size := of_decide_eq_true (by kernel_rfl)
theorem wide59 : (match Try.prog.underlying 59 with | some (.array _ _) | some (.struct _) => true | _ => false) = true := by kernel_rfl
theorem klaw59 : Keyed Try.prog 59 := Keyed.of_law (deep_law_laid laidOut (m := 3) (by omega) row59 (by kernel_rfl) wide59)
theorem cells59 : Try.prog.cellsOf 59 = 2 := by kernel_rfl
theorem cells21 : Try.prog.cellsOf 21 = 1 := by kernel_rfl
theorem kt59 : Try.prog.keyType 59 = true := by kernel_rfl

theorem key59 (a b : Int) (ha : (Lit.int .i32 a).wf = true) (hb : (Lit.int .i32 b).wf = true) : keyOf Try.prog 59 (.agg #[.int .i32 a, .int .i32 b]) = some (.string (keyBytes [.int .i32 a, .int .i32 b])) :=
  key_two Try.underlying59 rfl rfl rfl rfl rfl rfl Try.underlying21 cells59 cells21 kt59 (Nat.lt_of_le_of_lt (Nat.zero_le 59) row59) a b ha hb
end Go.Proofs.Qxb6602948a

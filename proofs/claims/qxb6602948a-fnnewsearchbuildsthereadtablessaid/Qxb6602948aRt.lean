import Derived.Test.Qxb6602948aRs
namespace Go.Proofs.Qxb6602948a
open Go.RowKit Go.Kx Go.Uf
set_option linter.unusedVariables false

theorem grow_zero (w : World) : Calls Try.prog 45 #[.slice none 0 0, .int .i64 0] w fun e w' => e = .returned (.slice none 0 0) ∧ w' = w := by
  refine (grow_any 0 w (by omega)).mono ?_
  rintro e w' ⟨a, cap, rfl, _, hz, _, _⟩
  obtain ⟨rfl, rfl, hw⟩ := hz rfl
  exact ⟨rfl, hw⟩

set_option maxRecDepth 100000 in
set_option maxHeartbeats 2000000 in
theorem reset_zero (S : Nat) (v0 v1 v2 v3 v4 v5 v8 v9 v10 : Value) (w : World) (hS : Blk w S #[v0, v1, v2, v3, v4, v5, .slice none 0 0, .slice none 0 0, v8, v9, v10] 67) :
    Calls Try.prog 42 #[.pointer (some ⟨S, 6, none⟩), .int .i64 0] w fun e w' => ResetPost S 0 v0 v1 v2 v3 v4 v5 v8 v9 v10 w e w' := by
  have c6 := hS.cell 6
  have c7 := hS.cell 7
  have f6 := hS.free 6
  have f7 := hS.free 7
  have hSl := hS.lt
  go_enter Try.func42, Try.ntmps42
  go_upto_region 0 with fail
  go_cut [] from 5 to 28 (fun wc => wc = ((w.setCell ⟨S, 6, none⟩ (.slice none 0 0)).setCell ⟨S, 7, none⟩ (.slice none 0 0)).drew)
  case first =>
    go_region_with (go_at_call 45; refine (grow_zero _).mono ?_; rintro e w' ⟨rfl, rfl⟩)
    all_goals (go_wp2_with fail; go_meet; rfl)
  case rest =>
    subst hcut
    go_wp2
    go_loop [30] (fun s => s = .int .i64 0) (fun s => 0)
    case atStart => exact rfl
    case round =>
      obtain rfl := hrel
      go_wp2
      exact bodyPost_ret (v := .tuple #[]) (by simp [results, Try.results42]) rfl ⟨.slice none 0 0, .slice none 0 0, rfl, (((hS.set 6 _).set 7 _).congr (by simp)).drew, (But.set (g := S) (But.set (g := S) (But.of_below (g := S) (Below.refl _ _)) ⟨S, 6, none⟩ _ (.inl rfl)) ⟨S, 7, none⟩ _ (.inl rfl)).drew, fun _ => ⟨rfl, rfl⟩, fun h => by omega⟩

theorem reset_any (S K : Nat) (v0 v1 v2 v3 v4 v5 v8 v9 v10 : Value) (w : World) (hS : Blk w S #[v0, v1, v2, v3, v4, v5, .slice none 0 0, .slice none 0 0, v8, v9, v10] 67) (hK : K ≤ 1048576) :
    Calls Try.prog 42 #[.pointer (some ⟨S, 6, none⟩), .int .i64 (K : Nat)] w fun e w' => ResetPost S K v0 v1 v2 v3 v4 v5 v8 v9 v10 w e w' := by
  by_cases h : K = 0
  · subst h; exact reset_zero S v0 v1 v2 v3 v4 v5 v8 v9 v10 w hS
  · exact reset_pos S K v0 v1 v2 v3 v4 v5 v8 v9 v10 w hS hK (by omega)
end Go.Proofs.Qxb6602948a

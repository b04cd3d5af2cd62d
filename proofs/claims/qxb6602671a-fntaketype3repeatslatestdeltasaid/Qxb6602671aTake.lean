import Derived.Test.Qxb6602671aSame
import Derived.Deep.QuietTactic
import Derived.BigQuiet
namespace Go.Proofs.Qxb6602671a
open Go.RowKit
set_option linter.unusedVariables false

theorem below_alloc_setCell (w : World) (o : Obj) (p : Addr) (u : Value) : Below w.heap.size (w.setCell p u) ((w.alloc o).setCell p u) := by
  refine ⟨rfl, rfl, rfl, by simp [World.setCell], fun k hk => ?_⟩
  simp only [World.setCell, Array.getElem?_modify]
  rw [Below.heap_alloc w o k hk]

/-- type 3 inside a message: nothing of old memory turns -/
theorem take3_in (g : Nat) (a : Option Addr) (n c : Nat) (t0 t1 t2 t3 : Int) (x : Bool) (w : World) (hg : g < w.heap.size)
    (h8 : w.cell? ⟨g, 8, none⟩ = some (.slice a n c)) (hn : 0 < n) :
    Calls Try.prog 15 #[.pointer (some ⟨g, 0, none⟩), .int .u8 3, .agg #[.int .u32 t0, .int .u32 t1, .int .u8 t2, .int .u32 t3], .bool x] w fun e w' => e = .returned (.tuple #[]) ∧ Below w.heap.size w w' := by
  have hn' : (0 : Int) < (n : Int) := by omega
  go_enter Try.func15, Try.ntmps15
  go_wp2
  go_end0
  go_wp2
  go_end0
  exact ⟨rfl, ((Below.refl _ _).alloc (Nat.le_refl _) _).alloc (by simp) _⟩

theorem take3_out (g : Nat) (a : Option Addr) (c : Nat) (t0 t1 t2 t3 ts d : Int) (x : Bool) (w : World) (hg : g < w.heap.size)
    (h8 : w.cell? ⟨g, 8, none⟩ = some (.slice a 0 c)) (h1 : w.cell? ⟨g, 1, none⟩ = some (.int .u32 ts)) (h2 : w.cell? ⟨g, 2, none⟩ = some (.int .u32 d)) (f1 : w.frozen? ⟨g, 1, none⟩ = false) :
    Calls Try.prog 15 #[.pointer (some ⟨g, 0, none⟩), .int .u8 3, .agg #[.int .u32 t0, .int .u32 t1, .int .u8 t2, .int .u32 t3], .bool x] w fun e w' => e = .returned (.tuple #[]) ∧ Below w.heap.size (w.setCell ⟨g, 1, none⟩ (.int .u32 ((ts + d) % 4294967296))) w' := by
  go_enter Try.func15, Try.ntmps15
  go_wp2
  go_region
  go_wp2
  go_end0
  go_wp2
  go_end0
  exact ⟨rfl, (((Below.refl _ _).alloc (by simp [World.setCell]) _).alloc (by simp [World.setCell]) _).drew⟩

theorem take2 (g : Nat) (t1 t2 t3 ts d d0 : Int) (x x0 : Bool) (w : World) (hg : g < w.heap.size)
    (h1 : w.cell? ⟨g, 1, none⟩ = some (.int .u32 ts)) (h2 : w.cell? ⟨g, 2, none⟩ = some (.int .u32 d0)) (h6 : w.cell? ⟨g, 6, none⟩ = some (.bool x0)) (f1 : w.frozen? ⟨g, 1, none⟩ = false) (f2 : w.frozen? ⟨g, 2, none⟩ = false) (f6 : w.frozen? ⟨g, 6, none⟩ = false) :
    Calls Try.prog 15 #[.pointer (some ⟨g, 0, none⟩), .int .u8 2, .agg #[.int .u32 d, .int .u32 t1, .int .u8 t2, .int .u32 t3], .bool x] w fun e w' => e = .returned (.tuple #[]) ∧ Below w.heap.size (((w.setCell ⟨g, 1, none⟩ (.int .u32 ((ts + d) % 4294967296))).setCell ⟨g, 2, none⟩ (.int .u32 d)).setCell ⟨g, 6, none⟩ (.bool x)) w' := by
  go_enter Try.func15, Try.ntmps15
  go_wp2
  go_region
  go_wp2
  go_end0
  go_wp2
  go_end0
  exact ⟨rfl, (((Below.refl _ _).alloc (by simp [World.setCell]) _).alloc (by simp [World.setCell]) _).drew⟩

theorem new_any (v0 v1 v2 v3 v4 v5 : Int) (x6 x7 : Bool) (a : Option Addr) (n c : Nat) (w : World) :
    Calls Try.prog 14 #[.int .u32 v0, .int .u32 v1, .int .u32 v2, .int .u32 v3, .int .u8 v4, .int .u32 v5, .bool x6, .bool x7, .slice a n c] w fun e w' =>
      e = .returned (.pointer (some ⟨w.heap.size, 0, none⟩)) ∧ w' = w.alloc (.cells #[.int .u32 v0, .int .u32 v1, .int .u32 v2, .int .u32 v3, .int .u8 v4, .int .u32 v5, .bool x6, .bool x7, .slice a n c] 50) := by
  go_enter Try.func14, Try.ntmps14
  go_wp2
  go_ret
  exact ⟨rfl, rfl⟩

theorem mh_any (t0 t1 t2 t3 : Int) (w : World) :
    Calls Try.prog 16 #[.agg #[.int .u32 t0, .int .u32 t1, .int .u8 t2, .int .u32 t3]] w fun e w' =>
      e = .returned (.agg #[.int .u32 t0, .int .u32 t1, .int .u8 t2, .int .u32 t3]) ∧ Below w.heap.size w w' := by
  go_enter Try.func16, Try.ntmps16
  go_wp2
  exact bodyPost_ret (v := .agg #[.int .u32 t0, .int .u32 t1, .int .u8 t2, .int .u32 t3]) (by simp [results, Try.results16, go_sem]) rfl ⟨rfl, ((Below.refl _ _).alloc (Nat.le_refl _) _).alloc (by simp) _⟩

theorem bytes_any (v0 v1 v2 v3 v4 v5 : Int) (x6 x7 : Bool) (a : Option Addr) (n c : Nat) (t0 t1 t2 t3 : Int) (x : Bool) (w : World) :
    Calls Try.prog 13 #[.agg #[.int .u32 v0, .int .u32 v1, .int .u32 v2, .int .u32 v3, .int .u8 v4, .int .u32 v5, .bool x6, .bool x7, .slice a n c], .agg #[.int .u32 t0, .int .u32 t1, .int .u8 t2, .int .u32 t3], .bool x] w fun e w' =>
      e = .returned (.bool (decide (n ≤ 1048576))) ∧ Below w.heap.size w w' := by
  by_cases h : n ≤ 1048576
  · go_enter Try.func13, Try.ntmps13
    go_wp2
    go_ret
    exact ⟨by simp [h], ((Below.refl _ _).alloc (Nat.le_refl _) _).alloc (by simp) _⟩
  · go_enter Try.func13, Try.ntmps13
    go_wp2
    go_ret
    exact ⟨by simp [h], ((Below.refl _ _).alloc (Nat.le_refl _) _).alloc (by simp) _⟩

theorem fields_any (g : Nat) (v0 v1 v2 v3 v4 v5 v6 v7 v8 : Value) (w : World)
    (h0 : w.cell? ⟨g, 0, none⟩ = some v0) (h1 : w.cell? ⟨g, 1, none⟩ = some v1) (h2 : w.cell? ⟨g, 2, none⟩ = some v2) (h3 : w.cell? ⟨g, 3, none⟩ = some v3) (h4 : w.cell? ⟨g, 4, none⟩ = some v4)
    (h5 : w.cell? ⟨g, 5, none⟩ = some v5) (h6 : w.cell? ⟨g, 6, none⟩ = some v6) (h7 : w.cell? ⟨g, 7, none⟩ = some v7) (h8 : w.cell? ⟨g, 8, none⟩ = some v8) :
    Calls Try.prog 17 #[.pointer (some ⟨g, 0, none⟩)] w fun e w' => e = .returned (.tuple #[v0, v1, v2, v3, v4, v5, v6, v7, v8]) ∧ Below w.heap.size w w' := by
  go_enter Try.func17, Try.ntmps17
  go_wp2
  go_quiet (fail)
  go_wp2
  exact bodyPost_ret (v := .tuple #[v0, v1, v2, v3, v4, v5, v6, v7, v8]) (by simp [results, Try.results17, go_sem]) rfl ⟨rfl, below_drewN (Below.refl _ _) _⟩

end Go.Proofs.Qxb6602671a

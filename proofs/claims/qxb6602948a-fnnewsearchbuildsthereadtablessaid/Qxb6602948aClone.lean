import Derived.Test.Qxb6602948aProg
import Derived.Test.Qxb6602948aKit
import Derived.Laws.CopyOwn
namespace Go.Proofs.Qxb6602948a
open Go.RowKit Go.Kx
set_option linter.unusedVariables false

theorem info3 : (Try.prog.info? 3).map (fun i => (i.zero, i.size, i.bytes)) = some (some (.int .i64 0), 1, 8) := by kernel_rfl
theorem info21 : (Try.prog.info? 21).map (fun i => (i.zero, i.size, i.bytes)) = some (some (.int .i32 0), 1, 4) := by kernel_rfl
theorem info4 : (Try.prog.info? 4).map (fun i => (i.zero, i.size, i.bytes)) = some (some (.bool false), 1, 1) := by kernel_rfl
theorem info101 : (Try.prog.info? 101).map (fun i => (i.zero, i.size, i.bytes)) = some (some (.int .u64 0), 1, 8) := by kernel_rfl

/-- what a clone hands back -/
def Cloned (e : TypeId) (w w' : World) (a a' : Option Addr) (n c' : Nat) (f : Nat → Value) : Prop :=
  Below w.heap.size w w' ∧ ((a = none ∧ a' = none ∧ n = 0 ∧ c' = 0 ∧ w' = w) ∨ (∃ x, a = some x) ∧ a' = some ⟨w.heap.size, 0, none⟩ ∧ c' = n ∧ Blk w' w.heap.size (rowOf f n) e)

theorem copy_cells {f : Nat → Value} {n : Nat} (z : Value) : splice ((List.range n).map (fun _ => z)) 0 ((List.range n).map f) = (List.range n).map f := by
  simp [splice]

set_option maxHeartbeats 400000 in
theorem cloneInts_any (a : Option Addr) (n c : Nat) (f : Nat → Value) (w : World) (h : Rw w a n c f) (h1 : ∀ j, (f j).oneCell' = true) (hn : n ≤ 1048576) :
    Calls Try.prog 9 #[.slice a n c] w fun e w' => ∃ a' c', e = .returned (.slice a' n c') ∧ Cloned 3 w w' a a' n c' f := by
  have q := fun (w : World) (a : Option Addr) (n c : Nat) => Lib.run_eql_slice_nil (P := Try.prog) w 22 3 a n c 0 0 Try.underlying22
  have H : Hid (Rw w a n c f) := h
  clear h
  obtain ⟨i, hi, hz0, hz1, hz2⟩ := info_parts info3
  cases a with
  | none =>
    obtain ⟨rfl, rfl⟩ := H.out.1 rfl
    go_enter Try.func9, Try.ntmps9
    go_wp2
    go_ret
    exact ⟨none, 0, rfl, Below.refl _ _, .inl ⟨rfl, rfl, rfl, rfl, rfl⟩⟩
  | some x =>
    have hmk : ∀ w : World, (Instr.makeSlice 22 (.int .i64 (n : Int)) (.int .i64 (n : Int))).run Try.prog w = .ok (.slice (some ⟨w.heap.size, 0, none⟩) n n) (w.alloc (.cells (rowOf (fun _ => .int .i64 0) n) 3)) := by
      intro w
      have := run_make (P := Try.prog) w 22 3 i (.int .i64 0) Try.underlying22 hi hz0 .i64 .i64 n n (by omega) (by omega) (by rw [hz2]; omega) (by omega)
      rw [this, rowOf_const, hz1]; simp; rfl
    clear hi hz0 hz1 hz2
    go_enter Try.func9, Try.ntmps9
    have hsz : (Try.prog.info? 3).map (·.size) = some 1 := by kernel_rfl
    go_wp2_with (refine wpList_copy_splice rfl (.tmp 9) (.tmp 10) 22 22 rfl 3 Try.underlying22 hsz _ _ _ _ _ _ rfl rfl w.heap.size 0 ((List.range n).map fun _ => .int .i64 0) 3 ?hg ((List.range n).map f) ?hn ?hpos ?hfit ?h1 w.heap.size w ?hb ?hBg ?_)
    case hg => exact Blk.new w _ 3
    case hn => simp
    case hpos =>
      intro _ j k hk
      have hj : j < n := by have := (List.getElem?_eq_some_iff.1 hk).1; simpa using this
      simp [hj] at hk
      subst hk
      exact cell_later ((Below.refl _ _).alloc (Nat.le_refl _) _) (H.out.2 x rfl j hj)
    case hfit => simp
    case h1 => simp; exact fun j _ => h1 j
    case hb => exact (Below.refl _ _).alloc (Nat.le_refl _) _
    case hBg => exact Nat.le_refl _
    intro w2 HG hB
    go_wp2
    go_ret
    rw [copy_cells] at HG
    exact ⟨_, n, rfl, hB, .inr ⟨⟨x, rfl⟩, rfl, rfl, HG.out⟩⟩
set_option maxHeartbeats 400000 in
theorem cloneI32_any (a : Option Addr) (n c : Nat) (f : Nat → Value) (w : World) (h : Rw w a n c f) (h1 : ∀ j, (f j).oneCell' = true) (hn : n ≤ 1048576) :
    Calls Try.prog 10 #[.slice a n c] w fun e w' => ∃ a' c', e = .returned (.slice a' n c') ∧ Cloned 21 w w' a a' n c' f := by
  have q := fun (w : World) (a : Option Addr) (n c : Nat) => Lib.run_eql_slice_nil (P := Try.prog) w 23 21 a n c 0 0 Try.underlying23
  have H : Hid (Rw w a n c f) := h
  clear h
  obtain ⟨i, hi, hz0, hz1, hz2⟩ := info_parts info21
  cases a with
  | none =>
    obtain ⟨rfl, rfl⟩ := H.out.1 rfl
    go_enter Try.func10, Try.ntmps10
    go_wp2
    go_ret
    exact ⟨none, 0, rfl, Below.refl _ _, .inl ⟨rfl, rfl, rfl, rfl, rfl⟩⟩
  | some x =>
    have hmk : ∀ w : World, (Instr.makeSlice 23 (.int .i64 (n : Int)) (.int .i64 (n : Int))).run Try.prog w = .ok (.slice (some ⟨w.heap.size, 0, none⟩) n n) (w.alloc (.cells (rowOf (fun _ => .int .i32 0) n) 21)) := by
      intro w
      have := run_make (P := Try.prog) w 23 21 i (.int .i32 0) Try.underlying23 hi hz0 .i64 .i64 n n (by omega) (by omega) (by rw [hz2]; omega) (by omega)
      rw [this, rowOf_const, hz1]; simp; rfl
    clear hi hz0 hz1 hz2
    go_enter Try.func10, Try.ntmps10
    have hsz : (Try.prog.info? 21).map (·.size) = some 1 := by kernel_rfl
    go_wp2_with (refine wpList_copy_splice rfl (.tmp 9) (.tmp 10) 23 23 rfl 21 Try.underlying23 hsz _ _ _ _ _ _ rfl rfl w.heap.size 0 ((List.range n).map fun _ => .int .i32 0) 21 ?hg ((List.range n).map f) ?hn ?hpos ?hfit ?h1 w.heap.size w ?hb ?hBg ?_)
    case hg => exact Blk.new w _ 21
    case hn => simp
    case hpos =>
      intro _ j k hk
      have hj : j < n := by have := (List.getElem?_eq_some_iff.1 hk).1; simpa using this
      simp [hj] at hk
      subst hk
      exact cell_later ((Below.refl _ _).alloc (Nat.le_refl _) _) (H.out.2 x rfl j hj)
    case hfit => simp
    case h1 => simp; exact fun j _ => h1 j
    case hb => exact (Below.refl _ _).alloc (Nat.le_refl _) _
    case hBg => exact Nat.le_refl _
    intro w2 HG hB
    go_wp2
    go_ret
    rw [copy_cells] at HG
    exact ⟨_, n, rfl, hB, .inr ⟨⟨x, rfl⟩, rfl, rfl, HG.out⟩⟩
set_option maxHeartbeats 400000 in
theorem cloneBools_any (a : Option Addr) (n c : Nat) (f : Nat → Value) (w : World) (h : Rw w a n c f) (h1 : ∀ j, (f j).oneCell' = true) (hn : n ≤ 1048576) :
    Calls Try.prog 11 #[.slice a n c] w fun e w' => ∃ a' c', e = .returned (.slice a' n c') ∧ Cloned 4 w w' a a' n c' f := by
  have q := fun (w : World) (a : Option Addr) (n c : Nat) => Lib.run_eql_slice_nil (P := Try.prog) w 24 4 a n c 0 0 Try.underlying24
  have H : Hid (Rw w a n c f) := h
  clear h
  obtain ⟨i, hi, hz0, hz1, hz2⟩ := info_parts info4
  cases a with
  | none =>
    obtain ⟨rfl, rfl⟩ := H.out.1 rfl
    go_enter Try.func11, Try.ntmps11
    go_wp2
    go_ret
    exact ⟨none, 0, rfl, Below.refl _ _, .inl ⟨rfl, rfl, rfl, rfl, rfl⟩⟩
  | some x =>
    have hmk : ∀ w : World, (Instr.makeSlice 24 (.int .i64 (n : Int)) (.int .i64 (n : Int))).run Try.prog w = .ok (.slice (some ⟨w.heap.size, 0, none⟩) n n) (w.alloc (.cells (rowOf (fun _ => .bool false) n) 4)) := by
      intro w
      have := run_make (P := Try.prog) w 24 4 i (.bool false) Try.underlying24 hi hz0 .i64 .i64 n n (by omega) (by omega) (by rw [hz2]; omega) (by omega)
      rw [this, rowOf_const, hz1]; simp; rfl
    clear hi hz0 hz1 hz2
    go_enter Try.func11, Try.ntmps11
    have hsz : (Try.prog.info? 4).map (·.size) = some 1 := by kernel_rfl
    go_wp2_with (refine wpList_copy_splice rfl (.tmp 9) (.tmp 10) 24 24 rfl 4 Try.underlying24 hsz _ _ _ _ _ _ rfl rfl w.heap.size 0 ((List.range n).map fun _ => .bool false) 4 ?hg ((List.range n).map f) ?hn ?hpos ?hfit ?h1 w.heap.size w ?hb ?hBg ?_)
    case hg => exact Blk.new w _ 4
    case hn => simp
    case hpos =>
      intro _ j k hk
      have hj : j < n := by have := (List.getElem?_eq_some_iff.1 hk).1; simpa using this
      simp [hj] at hk
      subst hk
      exact cell_later ((Below.refl _ _).alloc (Nat.le_refl _) _) (H.out.2 x rfl j hj)
    case hfit => simp
    case h1 => simp; exact fun j _ => h1 j
    case hb => exact (Below.refl _ _).alloc (Nat.le_refl _) _
    case hBg => exact Nat.le_refl _
    intro w2 HG hB
    go_wp2
    go_ret
    rw [copy_cells] at HG
    exact ⟨_, n, rfl, hB, .inr ⟨⟨x, rfl⟩, rfl, rfl, HG.out⟩⟩
set_option maxHeartbeats 400000 in
theorem cloneU64_any (a : Option Addr) (n c : Nat) (f : Nat → Value) (w : World) (h : Rw w a n c f) (h1 : ∀ j, (f j).oneCell' = true) (hn : n ≤ 1048576) :
    Calls Try.prog 17 #[.slice a n c] w fun e w' => ∃ a' c', e = .returned (.slice a' n c') ∧ Cloned 101 w w' a a' n c' f := by
  have q := fun (w : World) (a : Option Addr) (n c : Nat) => Lib.run_eql_slice_nil (P := Try.prog) w 35 101 a n c 0 0 Try.underlying35
  have H : Hid (Rw w a n c f) := h
  clear h
  obtain ⟨i, hi, hz0, hz1, hz2⟩ := info_parts info101
  cases a with
  | none =>
    obtain ⟨rfl, rfl⟩ := H.out.1 rfl
    go_enter Try.func17, Try.ntmps17
    go_wp2
    go_ret
    exact ⟨none, 0, rfl, Below.refl _ _, .inl ⟨rfl, rfl, rfl, rfl, rfl⟩⟩
  | some x =>
    have hmk : ∀ w : World, (Instr.makeSlice 35 (.int .i64 (n : Int)) (.int .i64 (n : Int))).run Try.prog w = .ok (.slice (some ⟨w.heap.size, 0, none⟩) n n) (w.alloc (.cells (rowOf (fun _ => .int .u64 0) n) 101)) := by
      intro w
      have := run_make (P := Try.prog) w 35 101 i (.int .u64 0) Try.underlying35 hi hz0 .i64 .i64 n n (by omega) (by omega) (by rw [hz2]; omega) (by omega)
      rw [this, rowOf_const, hz1]; simp; rfl
    clear hi hz0 hz1 hz2
    go_enter Try.func17, Try.ntmps17
    have hsz : (Try.prog.info? 101).map (·.size) = some 1 := by kernel_rfl
    go_wp2_with (refine wpList_copy_splice rfl (.tmp 9) (.tmp 10) 35 35 rfl 101 Try.underlying35 hsz _ _ _ _ _ _ rfl rfl w.heap.size 0 ((List.range n).map fun _ => .int .u64 0) 101 ?hg ((List.range n).map f) ?hn ?hpos ?hfit ?h1 w.heap.size w ?hb ?hBg ?_)
    case hg => exact Blk.new w _ 101
    case hn => simp
    case hpos =>
      intro _ j k hk
      have hj : j < n := by have := (List.getElem?_eq_some_iff.1 hk).1; simpa using this
      simp [hj] at hk
      subst hk
      exact cell_later ((Below.refl _ _).alloc (Nat.le_refl _) _) (H.out.2 x rfl j hj)
    case hfit => simp
    case h1 => simp; exact fun j _ => h1 j
    case hb => exact (Below.refl _ _).alloc (Nat.le_refl _) _
    case hBg => exact Nat.le_refl _
    intro w2 HG hB
    go_wp2
    go_ret
    rw [copy_cells] at HG
    exact ⟨_, n, rfl, hB, .inr ⟨⟨x, rfl⟩, rfl, rfl, HG.out⟩⟩
end Go.Proofs.Qxb6602948a

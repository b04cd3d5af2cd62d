import Derived.Test.Qxb6602948aBase
namespace Go.Proofs.Qxb6602948a
open Go.RowKit Go.Kx
set_option linter.unusedVariables false

theorem info59 : (Try.prog.info? 59).map (fun i => (i.zero, i.size, i.bytes)) = some (some (.agg #[.int .i32 0, .int .i32 0]), 2, 8) := by kernel_rfl

/-- two columns, cell by cell in turn -/
def pairs (f g : Nat → Value) : Nat → Value := fun j => if j % 2 = 0 then f (j / 2) else g (j / 2)

theorem pairs_even (f g : Nat → Value) (k : Nat) : pairs f g (2 * k) = f k := by
  have h1 : (2 * k) % 2 = 0 := by omega
  have h2 : (2 * k) / 2 = k := by omega
  simp [pairs]
theorem pairs_odd (f g : Nat → Value) (k : Nat) : pairs f g (2 * k + 1) = g k := by
  have h1 : ¬ (2 * k + 1) % 2 = 0 := by omega
  have h2 : (2 * k + 1) / 2 = k := by omega
  unfold pairs; rw [if_neg h1, h2]

/-- the row behind k rounds -/
def midp (z1 z2 : Nat → Int) (k : Nat) : Nat → Value := fun j => if j < 2 * k then pairs (ints .i32 z1) (ints .i32 z2) j else .int .i32 0

theorem midp_step (z1 z2 : Nat → Int) (k : Nat) : upd (upd (midp z1 z2 k) (2 * k) (.int .i32 (z1 k))) (2 * k + 1) (.int .i32 (z2 k)) = midp z1 z2 (k + 1) := by
  funext j
  by_cases h1 : j = 2 * k + 1
  · subst h1; rw [upd_same]; unfold midp; rw [if_pos (by omega), pairs_odd]
  · rw [upd_ne _ _ h1]
    by_cases h2 : j = 2 * k
    · subst h2; rw [upd_same]; unfold midp; rw [if_pos (by omega), pairs_even]
    · rw [upd_ne _ _ h2]; unfold midp
      by_cases h3 : j < 2 * k
      · rw [if_pos h3, if_pos (by omega)]
      · rw [if_neg h3, if_neg (by omega)]

theorem midp_zero (z1 z2 : Nat → Int) (n : Nat) : rowOf (midp z1 z2 0) (2 * n) = madeCells #[.int .i32 0, .int .i32 0] (n * 2) := by
  apply Array.ext
  · simp [rowOf, madeCells]; omega
  · intro j h1 h2
    simp [rowOf, madeCells, midp]
    have : j % 2 = 0 ∨ j % 2 = 1 := by omega
    rcases this with h | h <;> simp [h]

/-- a slice of pairs of int32 -/
def Rw2 (W : World) (a : Option Addr) (n c : Nat) (f g : Nat → Value) : Prop :=
  (a = none → n = 0 ∧ c = 0) ∧ ∀ x, a = some x → ∀ j, j < n → W.cell? (x.add (2 * j)) = some (f j) ∧ W.cell? (x.add (2 * j + 1)) = some (g j)

abbrev hcells (a0 : Option Addr) (n0 c0 : Nat) (items : Nat) (imp : Bool) (a3 : Option Addr) (n3 c3 : Nat) (Bq M : Nat) (a6 : Option Addr) (n6 c6 : Nat) (a7 : Option Addr) (n7 c7 : Nat) : Array Value :=
  #[.slice a0 n0 c0, .int .i64 items, .bool imp, .slice none 0 0, .slice a3 n3 c3, .slice (some ⟨Bq, 0, none⟩) M M, .slice a6 n6 c6, .slice a7 n7 c7]

set_option maxRecDepth 100000 in
set_option maxHeartbeats 1000000 in
theorem hist_any (a0 : Option Addr) (n0 c0 items : Nat) (imp : Bool) (a3 : Option Addr) (n3 c3 : Nat) (a4 : Option Addr) (M c4 : Nat) (a5 : Option Addr) (c5 : Nat) (a6 : Option Addr) (n6 c6 : Nat) (a7 : Option Addr) (n7 c7 : Nat) (z1 z2 : Nat → Int) (w : World)
    (r4 : Rw w a4 M c4 (ints .i32 z1)) (r5 : Rw w a5 M c5 (ints .i32 z2)) (hM : M ≤ 1048576) :
    Calls Try.prog 18 #[.slice a0 n0 c0, .int .i64 items, .bool imp, .slice a3 n3 c3, .slice a4 M c4, .slice a5 M c5, .slice a6 n6 c6, .slice a7 n7 c7] w fun e w' =>
      ∃ H, e = .returned (.pointer (some ⟨H, 0, none⟩)) ∧ Blk w' H (hcells a0 n0 c0 items imp a3 n3 c3 w.heap.size M a6 n6 c6 a7 n7 c7) 63 ∧ w.heap.size < H ∧ Blk w' w.heap.size (rowOf (pairs (ints .i32 z1) (ints .i32 z2)) (2 * M)) 59 ∧ Below w.heap.size w w' := by
  obtain ⟨i, hi, hz0, hz1, hz2⟩ := info_parts info59
  have hmk : ∀ w : World, (Instr.makeSlice 57 (.int .i64 (M : Int)) (.int .i64 (M : Int))).run Try.prog w = .ok (.slice (some ⟨w.heap.size, 0, none⟩) M M) (w.alloc (.cells (rowOf (midp z1 z2 0) (2 * M)) 59)) := by
    intro w
    have := run_make (P := Try.prog) w 57 59 i (.agg #[.int .i32 0, .int .i32 0]) Try.underlying57 hi hz0 .i64 .i64 M M (by omega) (by omega) (by rw [hz2]; omega) (by omega)
    rw [this, midp_zero, hz1]; simp; rfl
  clear hi hz0 hz1 hz2
  have R4 : Hid (Rw w a4 M c4 (ints .i32 z1)) := r4
  have R5 : Hid (Rw w a5 M c5 (ints .i32 z2)) := r5
  clear r4 r5
  go_enter Try.func18, Try.ntmps18
  go_wp2
  go_loopw [24] (fun s wr => ∃ k : Nat, k ≤ M ∧ s = .int .i64 k ∧ Blk wr w.heap.size (rowOf (midp z1 z2 k) (2 * M)) 59 ∧ Below w.heap.size w wr) (fun s _ => M - (intOf s).toNat)
  case atStart => exact ⟨0, Nat.zero_le _, rfl, Blk.new w _ 59, (Below.refl _ _).alloc (Nat.le_refl _) _⟩
  case round =>
    obtain ⟨k, hk, rfl, hB, hb⟩ := hrel
    by_cases hlt : k < M
    · obtain ⟨b4, o4, rfl, lt4, d4⟩ := (R4.out.later hb).plain (by omega)
      obtain ⟨b5, o5, rfl, lt5, d5⟩ := (R5.out.later hb).plain (by omega)
      have e4 := d4 k hlt
      have e5 := d5 k hlt
      have k1 : (k : Int) < (M : Int) := by omega
      have f1 := hB.free (k * 2)
      have f2 := hB.free (k * 2 + 1)
      have e6 := (hB.cell (k * 2)).trans (rowOf_get _ (by omega))
      have e7 := (hB.cell (k * 2 + 1)).trans (rowOf_get _ (by omega))
      clear d4 d5
      go_wp2
      go_region
      go_wp2
      go_roundw
      case rel => exact ⟨k + 1, by omega, by go_num, by rw [Nat.mul_comm k 2]; exact ((hB.set (2 * k) _).set (2 * k + 1) _).congr (by rw [rowOf_set, rowOf_set, midp_step]), ((hb.setCell (p := ⟨w.heap.size, k * 2, none⟩) (Nat.le_refl _) _).setCell (p := ⟨w.heap.size, k * 2 + 1, none⟩) (Nat.le_refl _) _).drew⟩
      case measure => simp [intOf]; omega
    · obtain rfl : k = M := by omega
      have hsz := hB.lt
      go_wp2
      go_ret
      have e : rowOf (midp z1 z2 k) (2 * k) = rowOf (pairs (ints .i32 z1) (ints .i32 z2)) (2 * k) := rowOf_congr (fun j hj => by unfold midp; rw [if_pos hj])
      exact ⟨wr.heap.size, rfl, Blk.new wr _ 63, hsz, (hB.congr e).alloc _, below_alloc hb _⟩
end Go.Proofs.Qxb6602948a

import Derived.Test.Qxb6602967aRec
namespace Go.Proofs.Qxb6602967a
open Go.RowKit Go.Kx
set_option linter.unusedVariables false

theorem info42 : (Try.prog.info? 42).map (fun i => (i.zero, i.size, i.bytes)) = some (some (.agg #[.bool false, .int .i64 0, .string ⟨#[]⟩, .string ⟨#[]⟩, .string ⟨#[]⟩]), 5, 64) := by kernel_rfl

def ints (k : IntKind) (z : Nat → Int) : Nat → Value := fun j => .int k (z j)
def bools (f : Nat → Bool) : Nat → Value := fun j => .bool (f j)
def strs (f : Nat → ByteArray) : Nat → Value := fun j => .string (f j)

/-- the row behind k rounds -/
def mid5 (f : Nat → Nat → Value) (k : Nat) : Nat → Value := fun j => if j < k * 5 then row5 f j else tcell (fun _ => false) (fun _ => 0) (fun _ => ⟨#[]⟩) (fun _ => ⟨#[]⟩) (fun _ => ⟨#[]⟩) 0 (j % 5)

theorem mid5_step (f : Nat → Nat → Value) (k : Nat) : upd (upd (upd (upd (upd (mid5 f k) (k * 5) (f k 0)) (k * 5 + 1) (f k 1)) (k * 5 + 2) (f k 2)) (k * 5 + 3) (f k 3)) (k * 5 + 4) (f k 4) = mid5 f (k + 1) := by
  funext j
  by_cases h4 : j = k * 5 + 4
  · subst h4; rw [upd_same]; unfold mid5; rw [if_pos (by omega), row5_at _ _ _ (by omega)]
  rw [upd_ne _ _ h4]
  by_cases h3 : j = k * 5 + 3
  · subst h3; rw [upd_same]; unfold mid5; rw [if_pos (by omega), row5_at _ _ _ (by omega)]
  rw [upd_ne _ _ h3]
  by_cases h2 : j = k * 5 + 2
  · subst h2; rw [upd_same]; unfold mid5; rw [if_pos (by omega), row5_at _ _ _ (by omega)]
  rw [upd_ne _ _ h2]
  by_cases h1 : j = k * 5 + 1
  · subst h1; rw [upd_same]; unfold mid5; rw [if_pos (by omega), row5_at _ _ _ (by omega)]
  rw [upd_ne _ _ h1]
  by_cases h0 : j = k * 5
  · subst h0; rw [upd_same]; unfold mid5; rw [if_pos (by omega)]
    have := row5_at f k 0 (by omega)
    rw [Nat.add_zero] at this
    exact this.symm
  rw [upd_ne _ _ h0]
  unfold mid5
  by_cases h : j < k * 5
  · rw [if_pos h, if_pos (by omega)]
  · rw [if_neg h, if_neg (by omega)]

theorem blk5 {w3 : World} {B N k : Nat} {m : Nat → Bool} {q : Nat → Int} {nm ar t : Nat → ByteArray} (h : Blk w3 B (rowOf (mid5 (tcell m q nm ar t) k) N) 42) :
    Blk (((((w3.setCell ⟨B, k * 5, none⟩ (.bool (m k))).setCell ⟨B, k * 5 + 1, none⟩ (.int .i64 (q k))).setCell ⟨B, k * 5 + 2, none⟩ (.string (nm k))).setCell ⟨B, k * 5 + 3, none⟩ (.string (ar k))).setCell ⟨B, k * 5 + 4, none⟩ (.string (t k))).drew B (rowOf (mid5 (tcell m q nm ar t) (k + 1)) N) 42 := by
  have h5 := ((((h.set (k * 5) (.bool (m k))).set (k * 5 + 1) (.int .i64 (q k))).set (k * 5 + 2) (.string (nm k))).set (k * 5 + 3) (.string (ar k))).set (k * 5 + 4) (.string (t k))
  rw [rowOf_set, rowOf_set, rowOf_set, rowOf_set, rowOf_set] at h5
  rw [← mid5_step]
  exact h5.drew

theorem mid5_zero (f : Nat → Nat → Value) (n : Nat) : rowOf (mid5 f 0) (n * 5) = madeCells #[.bool false, .int .i64 0, .string ⟨#[]⟩, .string ⟨#[]⟩, .string ⟨#[]⟩] (n * 5) := by
  apply Array.ext
  · simp [rowOf, madeCells]
  · intro j h1 h2
    simp [rowOf, madeCells, mid5, tcell]
    have : j % 5 = 0 ∨ j % 5 = 1 ∨ j % 5 = 2 ∨ j % 5 = 3 ∨ j % 5 = 4 := by omega
    rcases this with h | h | h | h | h <;> simp [h]

set_option maxRecDepth 100000 in
set_option maxHeartbeats 1000000 in
theorem zz_any (a0 a1 a2 a3 a4 : Option Addr) (n c0 c1 c2 c3 c4 : Nat) (m : Nat → Bool) (q : Nat → Int) (nm ar t : Nat → ByteArray) (all : Int) (ha : Bool) (w : World)
    (r0 : Rw w a0 n c0 (bools m)) (r1 : Rw w a1 n c1 (ints .i64 q)) (r2 : Rw w a2 n c2 (strs nm)) (r3 : Rw w a3 n c3 (strs ar)) (r4 : Rw w a4 n c4 (strs t))
    (hq : ∀ i, i < n → m i = true → 0 ≤ q i ∧ q i ≤ 3) (hall : ha = true → 0 ≤ all ∧ all ≤ 3) (ht : ∀ i, i < n → (t i).size ≤ 1048576) (hn : n ≤ 2097152) :
    Calls Try.prog 27 #[.slice a0 n c0, .slice a1 n c1, .slice a2 n c2, .slice a3 n c3, .slice a4 n c4, .int .i64 all, .bool ha] w fun e w' => RPost (recb m q t n all ha) w e w' := by
  obtain ⟨i, hi, hz0, hz1, hz2⟩ := info_parts info42
  have hmk : ∀ w : World, (Instr.makeSlice 45 (.int .i64 (n : Int)) (.int .i64 (n : Int))).run Try.prog w = .ok (.slice (some ⟨w.heap.size, 0, none⟩) n n) (w.alloc (.cells (rowOf (mid5 (tcell m q nm ar t) 0) (n * 5)) 42)) := by
    intro w
    have := run_make (P := Try.prog) w 45 42 i (.agg #[.bool false, .int .i64 0, .string ⟨#[]⟩, .string ⟨#[]⟩, .string ⟨#[]⟩]) Try.underlying45 hi hz0 .i64 .i64 n n (by omega) (by omega) (by rw [hz2]; omega) (by omega)
    rw [this, mid5_zero, hz1]; simp; rfl
  clear hi hz0 hz1 hz2
  have R0 : Hid (Rw w a0 n c0 (bools m)) := r0
  have R1 : Hid (Rw w a1 n c1 (ints .i64 q)) := r1
  have R2 : Hid (Rw w a2 n c2 (strs nm)) := r2
  have R3 : Hid (Rw w a3 n c3 (strs ar)) := r3
  have R4 : Hid (Rw w a4 n c4 (strs t)) := r4
  have HQ : Hid (∀ i, i < n → m i = true → 0 ≤ q i ∧ q i ≤ 3) := hq
  have HT : Hid (∀ i, i < n → (t i).size ≤ 1048576) := ht
  clear r0 r1 r2 r3 r4 hq ht
  go_enter Try.func27, Try.ntmps27
  go_wp2
  go_loopw [16] (fun s wr => ∃ k : Nat, k ≤ n ∧ s = .int .i64 k ∧ Blk wr w.heap.size (rowOf (mid5 (tcell m q nm ar t) k) (n * 5)) 42 ∧ Below w.heap.size w wr) (fun s _ => n - (intOf s).toNat)
  case atStart => exact ⟨0, Nat.zero_le _, rfl, Blk.new w _ 42, (Below.refl _ _).alloc (Nat.le_refl _) _⟩
  case round =>
    obtain ⟨k, hk, rfl, hB, hb⟩ := hrel
    obtain ⟨w3, hw3⟩ : ∃ w3, w3 = wr := ⟨_, rfl⟩
    subst hw3
    by_cases hlt : k < n
    · obtain ⟨b0, o0, rfl, lt0, d0⟩ := (R0.out.later hb).plain (by omega)
      obtain ⟨b1, o1, rfl, lt1, d1⟩ := (R1.out.later hb).plain (by omega)
      obtain ⟨b2, o2, rfl, lt2, d2⟩ := (R2.out.later hb).plain (by omega)
      obtain ⟨b3, o3, rfl, lt3, d3⟩ := (R3.out.later hb).plain (by omega)
      obtain ⟨b4, o4, rfl, lt4, d4⟩ := (R4.out.later hb).plain (by omega)
      have e0 : w3.cell? ⟨b0, o0 + k, none⟩ = some (.bool (m k)) := d0 k hlt
      have e1 : w3.cell? ⟨b1, o1 + k, none⟩ = some (.int .i64 (q k)) := d1 k hlt
      have e2 : w3.cell? ⟨b2, o2 + k, none⟩ = some (.string (nm k)) := d2 k hlt
      have e3 : w3.cell? ⟨b3, o3 + k, none⟩ = some (.string (ar k)) := d3 k hlt
      have e4 : w3.cell? ⟨b4, o4 + k, none⟩ = some (.string (t k)) := d4 k hlt
      have k1 : (k : Int) < (n : Int) := by omega
      have f0 := hB.free (k * 5)
      have f1 := hB.free (k * 5 + 1)
      have f2 := hB.free (k * 5 + 2)
      have f3 := hB.free (k * 5 + 3)
      have f4 := hB.free (k * 5 + 4)
      have g0 := (hB.cell (k * 5)).trans (rowOf_get _ (by omega))
      have g1 := (hB.cell (k * 5 + 1)).trans (rowOf_get _ (by omega))
      have g2 := (hB.cell (k * 5 + 2)).trans (rowOf_get _ (by omega))
      have g3 := (hB.cell (k * 5 + 3)).trans (rowOf_get _ (by omega))
      have g4 := (hB.cell (k * 5 + 4)).trans (rowOf_get _ (by omega))
      clear d0 d1 d2 d3 d4
      go_wp2
      go_region
      go_wp2
      go_roundw
      case rel =>
        refine ⟨k + 1, by omega, by go_num, ?_, ?_⟩
        · exact blk5 hB
        · exact (((((hb.setCell (p := ⟨w.heap.size, k * 5, none⟩) (Nat.le_refl _) _).setCell (p := ⟨w.heap.size, k * 5 + 1, none⟩) (Nat.le_refl _) _).setCell (p := ⟨w.heap.size, k * 5 + 2, none⟩) (Nat.le_refl _) _).setCell (p := ⟨w.heap.size, k * 5 + 3, none⟩) (Nat.le_refl _) _).setCell (p := ⟨w.heap.size, k * 5 + 4, none⟩) (Nat.le_refl _) _).drew
      case measure => simp [intOf]; omega
    · obtain rfl : n = k := by omega
      have k1 : ¬ ((n : Int) < (n : Int)) := by omega
      have e : rowOf (mid5 (tcell m q nm ar t) n) (n * 5) = rowOf (row5 (tcell m q nm ar t)) (n * 5) := rowOf_congr (fun j hj => by unfold mid5; rw [if_pos hj])
      have HB3 : Hid (Blk w3 w.heap.size (rowOf (row5 (tcell m q nm ar t)) (n * 5)) 42) := hB.congr e
      clear hB e
      go_wp2_with fail
      refine (rec_any w.heap.size n m q nm ar t all ha _ HB3.out HQ.out hall HT.out hn).mono ?_
      rintro e w4 ⟨u, rfl, hu, hb4⟩
      have FB : Hid (Below w.heap.size w w4) := below_next hb hb4
      have HU : Hid (u.data.toList = recb m q t n all ha) := hu
      clear hb4 hu
      go_wp2
      go_ret
      exact ⟨u, rfl, HU.out, FB.out⟩
end Go.Proofs.Qxb6602967a

import Derived.Test.Qxb6602967aSb
namespace Go.Proofs.Qxb6602967a
open Go.RowKit Go.Kx
set_option linter.unusedVariables false

theorem info4 : (Try.prog.info? 4).map (fun i => (i.zero, i.size, i.bytes)) = some (some (.bool false), 1, 1) := by kernel_rfl
theorem info3 : (Try.prog.info? 3).map (fun i => (i.zero, i.size, i.bytes)) = some (some (.int .i64 0), 1, 8) := by kernel_rfl
theorem info9 : (Try.prog.info? 9).map (fun i => (i.zero, i.size, i.bytes)) = some (some (.string ⟨#[]⟩), 1, 16) := by kernel_rfl

def CPost (f : Nat → Value) (n : Nat) (w : World) (e : Ending) (w' : World) : Prop := ∃ a' c', e = .returned (.slice a' n c') ∧ Rw w' a' n c' f ∧ Below w.heap.size w w'
theorem below_set {w wr : World} {p : Addr} {v : Value} (h : Below w.heap.size w wr) (hp : w.heap.size ≤ p.block) : Below w.heap.size w (wr.setCell p v) := h.setCell hp v
theorem mid_step (f : Nat → Value) (z : Value) (n k : Nat) : rowOf (upd (fun j => if j < k then f j else z) k (f k)) n = rowOf (fun j => if j < k + 1 then f j else z) n := by
  apply rowOf_congr
  intro j _
  by_cases e : j = k
  · subst e; rw [upd_same, if_pos (by omega)]
  · rw [upd_ne _ _ e]
    by_cases h : j < k
    · rw [if_pos h, if_pos (by omega)]
    · rw [if_neg h, if_neg (by omega)]

set_option maxRecDepth 100000 in
set_option maxHeartbeats 1000000 in
theorem cloneB_any (a : Option Addr) (n c : Nat) (y : Nat → Bool) (w : World) (h : Rw w a n c (bools y)) (hn : n ≤ 1048576) :
    Calls Try.prog 24 #[.slice a n c] w fun e w' => CPost (bools y) n w e w' := by
  have qq := fun (w : World) (a : Option Addr) (n c : Nat) => Lib.run_eql_slice_nil (P := Try.prog) w 29 4 a n c 0 0 Try.underlying29
  have H : Hid (Rw w a n c (bools y)) := h
  clear h
  obtain ⟨i, hi, hz0, hz1, hz2⟩ := info_parts info4
  cases a with
  | none =>
    obtain ⟨rfl, rfl⟩ := H.out.1 rfl
    go_enter Try.func24, Try.ntmps24
    go_wp2
    go_ret
    exact ⟨none, 0, rfl, Rw.nil _ _, Below.refl _ _⟩
  | some x =>
    have hmk : ∀ w : World, (Instr.makeSlice 29 (.int .i64 (n : Int)) (.int .i64 (n : Int))).run Try.prog w = .ok (.slice (some ⟨w.heap.size, 0, none⟩) n n) (w.alloc (.cells (rowOf (fun _ => .bool false) n) 4)) := by
      intro w
      have := run_make (P := Try.prog) w 29 4 i (.bool false) Try.underlying29 hi hz0 .i64 .i64 n n (by omega) (by omega) (by rw [hz2]; omega) (by omega)
      rw [this, rowOf_const, hz1]; simp; rfl
    clear hi hz0 hz1 hz2
    go_enter Try.func24, Try.ntmps24
    go_wp2
    go_loopw [4] (fun s wr => ∃ k : Nat, k ≤ n ∧ s = .int .i64 k ∧ Blk wr w.heap.size (rowOf (fun j => if j < k then bools y j else .bool false) n) 4 ∧ Below w.heap.size w wr) (fun s _ => n - (intOf s).toNat)
    case atStart => exact ⟨0, Nat.zero_le _, rfl, (Blk.new w _ 4).congr (rowOf_congr (fun j _ => by simp)), (Below.refl _ _).alloc (Nat.le_refl _) _⟩
    case round =>
      obtain ⟨k, hk, rfl, hB, hb⟩ := hrel
      by_cases hlt : k < n
      · obtain ⟨b0, o0, hx, lt0, d0⟩ := (H.out.later hb).plain (by omega)
        obtain rfl := Option.some.inj hx
        have e0 : wr.cell? ⟨b0, o0 + k, none⟩ = some (.bool (y k)) := d0 k hlt
        have k1 : (k : Int) < (n : Int) := by omega
        have f0 := hB.free k
        have g0 := (hB.cell k).trans (rowOf_get _ hlt)
        clear d0
        go_wp2
        go_roundw
        case rel => exact ⟨k + 1, by omega, by go_num, ((hB.set k (.bool (y k))).congr (by rw [rowOf_set]; exact mid_step (bools y) (.bool false) n k)), below_set hb (Nat.le_refl _)⟩
        case measure => simp [intOf]; omega
      · obtain rfl : n = k := by omega
        have k1 : ¬ ((n : Int) < (n : Int)) := by omega
        have e : rowOf (fun j => if j < n then bools y j else .bool false) n = rowOf (bools y) n := rowOf_congr (fun j hj => by rw [if_pos hj])
        have HB : Hid (Blk wr w.heap.size (rowOf (bools y) n) 4) := hB.congr e
        clear hB e
        go_wp2
        go_ret
        exact ⟨_, n, rfl, Rw.of_blk HB.out (Nat.le_refl _), hb⟩

set_option maxRecDepth 100000 in
set_option maxHeartbeats 1000000 in
theorem cloneI_any (a : Option Addr) (n c : Nat) (y : Nat → Int) (w : World) (h : Rw w a n c (ints .i64 y)) (hn : n ≤ 1048576) :
    Calls Try.prog 25 #[.slice a n c] w fun e w' => CPost (ints .i64 y) n w e w' := by
  have qq := fun (w : World) (a : Option Addr) (n c : Nat) => Lib.run_eql_slice_nil (P := Try.prog) w 30 3 a n c 0 0 Try.underlying30
  have H : Hid (Rw w a n c (ints .i64 y)) := h
  clear h
  obtain ⟨i, hi, hz0, hz1, hz2⟩ := info_parts info3
  cases a with
  | none =>
    obtain ⟨rfl, rfl⟩ := H.out.1 rfl
    go_enter Try.func25, Try.ntmps25
    go_wp2
    go_ret
    exact ⟨none, 0, rfl, Rw.nil _ _, Below.refl _ _⟩
  | some x =>
    have hmk : ∀ w : World, (Instr.makeSlice 30 (.int .i64 (n : Int)) (.int .i64 (n : Int))).run Try.prog w = .ok (.slice (some ⟨w.heap.size, 0, none⟩) n n) (w.alloc (.cells (rowOf (fun _ => .int .i64 0) n) 3)) := by
      intro w
      have := run_make (P := Try.prog) w 30 3 i (.int .i64 0) Try.underlying30 hi hz0 .i64 .i64 n n (by omega) (by omega) (by rw [hz2]; omega) (by omega)
      rw [this, rowOf_const, hz1]; simp; rfl
    clear hi hz0 hz1 hz2
    go_enter Try.func25, Try.ntmps25
    go_wp2
    go_loopw [4] (fun s wr => ∃ k : Nat, k ≤ n ∧ s = .int .i64 k ∧ Blk wr w.heap.size (rowOf (fun j => if j < k then ints .i64 y j else .int .i64 0) n) 3 ∧ Below w.heap.size w wr) (fun s _ => n - (intOf s).toNat)
    case atStart => exact ⟨0, Nat.zero_le _, rfl, (Blk.new w _ 3).congr (rowOf_congr (fun j _ => by simp)), (Below.refl _ _).alloc (Nat.le_refl _) _⟩
    case round =>
      obtain ⟨k, hk, rfl, hB, hb⟩ := hrel
      by_cases hlt : k < n
      · obtain ⟨b0, o0, hx, lt0, d0⟩ := (H.out.later hb).plain (by omega)
        obtain rfl := Option.some.inj hx
        have e0 : wr.cell? ⟨b0, o0 + k, none⟩ = some (.int .i64 (y k)) := d0 k hlt
        have k1 : (k : Int) < (n : Int) := by omega
        have f0 := hB.free k
        have g0 := (hB.cell k).trans (rowOf_get _ hlt)
        clear d0
        go_wp2
        go_roundw
        case rel => exact ⟨k + 1, by omega, by go_num, ((hB.set k (.int .i64 (y k))).congr (by rw [rowOf_set]; exact mid_step (ints .i64 y) (.int .i64 0) n k)), below_set hb (Nat.le_refl _)⟩
        case measure => simp [intOf]; omega
      · obtain rfl : n = k := by omega
        have k1 : ¬ ((n : Int) < (n : Int)) := by omega
        have e : rowOf (fun j => if j < n then ints .i64 y j else .int .i64 0) n = rowOf (ints .i64 y) n := rowOf_congr (fun j hj => by rw [if_pos hj])
        have HB : Hid (Blk wr w.heap.size (rowOf (ints .i64 y) n) 3) := hB.congr e
        clear hB e
        go_wp2
        go_ret
        exact ⟨_, n, rfl, Rw.of_blk HB.out (Nat.le_refl _), hb⟩

set_option maxRecDepth 100000 in
set_option maxHeartbeats 1000000 in
theorem cloneS_any (a : Option Addr) (n c : Nat) (y : Nat → ByteArray) (w : World) (h : Rw w a n c (strs y)) (hn : n ≤ 1048576) :
    Calls Try.prog 26 #[.slice a n c] w fun e w' => CPost (strs y) n w e w' := by
  have qq := fun (w : World) (a : Option Addr) (n c : Nat) => Lib.run_eql_slice_nil (P := Try.prog) w 31 9 a n c 0 0 Try.underlying31
  have H : Hid (Rw w a n c (strs y)) := h
  clear h
  obtain ⟨i, hi, hz0, hz1, hz2⟩ := info_parts info9
  cases a with
  | none =>
    obtain ⟨rfl, rfl⟩ := H.out.1 rfl
    go_enter Try.func26, Try.ntmps26
    go_wp2
    go_ret
    exact ⟨none, 0, rfl, Rw.nil _ _, Below.refl _ _⟩
  | some x =>
    have hmk : ∀ w : World, (Instr.makeSlice 31 (.int .i64 (n : Int)) (.int .i64 (n : Int))).run Try.prog w = .ok (.slice (some ⟨w.heap.size, 0, none⟩) n n) (w.alloc (.cells (rowOf (fun _ => .string ⟨#[]⟩) n) 9)) := by
      intro w
      have := run_make (P := Try.prog) w 31 9 i (.string ⟨#[]⟩) Try.underlying31 hi hz0 .i64 .i64 n n (by omega) (by omega) (by rw [hz2]; omega) (by omega)
      rw [this, rowOf_const, hz1]; simp; rfl
    clear hi hz0 hz1 hz2
    go_enter Try.func26, Try.ntmps26
    go_wp2
    go_loopw [4] (fun s wr => ∃ k : Nat, k ≤ n ∧ s = .int .i64 k ∧ Blk wr w.heap.size (rowOf (fun j => if j < k then strs y j else .string ⟨#[]⟩) n) 9 ∧ Below w.heap.size w wr) (fun s _ => n - (intOf s).toNat)
    case atStart => exact ⟨0, Nat.zero_le _, rfl, (Blk.new w _ 9).congr (rowOf_congr (fun j _ => by simp)), (Below.refl _ _).alloc (Nat.le_refl _) _⟩
    case round =>
      obtain ⟨k, hk, rfl, hB, hb⟩ := hrel
      by_cases hlt : k < n
      · obtain ⟨b0, o0, hx, lt0, d0⟩ := (H.out.later hb).plain (by omega)
        obtain rfl := Option.some.inj hx
        have e0 : wr.cell? ⟨b0, o0 + k, none⟩ = some (.string (y k)) := d0 k hlt
        have k1 : (k : Int) < (n : Int) := by omega
        have f0 := hB.free k
        have g0 := (hB.cell k).trans (rowOf_get _ hlt)
        clear d0
        go_wp2
        go_roundw
        case rel => exact ⟨k + 1, by omega, by go_num, ((hB.set k (.string (y k))).congr (by rw [rowOf_set]; exact mid_step (strs y) (.string ⟨#[]⟩) n k)), below_set hb (Nat.le_refl _)⟩
        case measure => simp [intOf]; omega
      · obtain rfl : n = k := by omega
        have k1 : ¬ ((n : Int) < (n : Int)) := by omega
        have e : rowOf (fun j => if j < n then strs y j else .string ⟨#[]⟩) n = rowOf (strs y) n := rowOf_congr (fun j hj => by rw [if_pos hj])
        have HB : Hid (Blk wr w.heap.size (rowOf (strs y) n) 9) := hB.congr e
        clear hB e
        go_wp2
        go_ret
        exact ⟨_, n, rfl, Rw.of_blk HB.out (Nat.le_refl _), hb⟩

def WPost (n0 n1 n2 n3 n4 : Nat) (m : Nat → Bool) (q : Nat → Int) (w : World) (e : Ending) (w' : World) : Prop :=
  ∃ b, e = .returned (.bool b) ∧ w' = w ∧ (b = true → n0 = n4 ∧ n1 = n4 ∧ n2 = n4 ∧ n3 = n4 ∧ ∀ i, i < n4 → m i = true → 0 ≤ q i ∧ q i ≤ 3)

set_option maxRecDepth 100000 in
set_option maxHeartbeats 1000000 in
theorem wf_any (a0 a1 a2 a3 a4 : Option Addr) (n0 n1 n2 n3 n4 c0 c1 c2 c3 c4 : Nat) (m : Nat → Bool) (q : Nat → Int) (w : World) (r0 : Rw w a0 n0 c0 (bools m)) (r1 : Rw w a1 n1 c1 (ints .i64 q)) (h4 : n4 ≤ 1048576) :
    Calls Try.prog 23 #[.slice a0 n0 c0, .slice a1 n1 c1, .slice a2 n2 c2, .slice a3 n3 c3, .slice a4 n4 c4] w fun e w' => WPost n0 n1 n2 n3 n4 m q w e w' := by
  have R0 : Hid (Rw w a0 n0 c0 (bools m)) := r0
  have R1 : Hid (Rw w a1 n1 c1 (ints .i64 q)) := r1
  clear r0 r1
  by_cases hl : n0 = n4 ∧ n1 = n4 ∧ n2 = n4 ∧ n3 = n4
  rotate_left
  · have step : ∀ x y : Nat, (((x : Int) != (y : Int)) = true ↔ x ≠ y) := by intro x y; simp; omega
    by_cases e0 : n0 = n4
    · subst e0
      by_cases e1 : n1 = n0
      · subst e1
        by_cases e2 : n2 = n1
        · subst e2
          have c3 := (step n3 n2).2 (by omega)
          clear step hl
          go_enter Try.func23, Try.ntmps23
          go_wp2
          go_ret
          exact ⟨false, rfl, rfl, by simp⟩
        · have c2 := (step n2 n1).2 e2
          clear step hl
          go_enter Try.func23, Try.ntmps23
          go_wp2
          go_ret
          exact ⟨false, rfl, rfl, by simp⟩
      · have c1 := (step n1 n0).2 e1
        clear step hl
        go_enter Try.func23, Try.ntmps23
        go_wp2
        go_ret
        exact ⟨false, rfl, rfl, by simp⟩
    · have c0 := (step n0 n4).2 e0
      clear step hl
      go_enter Try.func23, Try.ntmps23
      go_wp2
      go_ret
      exact ⟨false, rfl, rfl, by simp⟩
  obtain ⟨rfl, rfl, rfl, rfl⟩ := hl
  go_enter Try.func23, Try.ntmps23
  go_wp2
  go_loop [12] (fun s => ∃ k : Nat, k ≤ n3 ∧ s = .int .i64 k ∧ ∀ i, i < k → m i = true → 0 ≤ q i ∧ q i ≤ 3) (fun s => n3 - (intOf s).toNat)
  case atStart => exact ⟨0, Nat.zero_le _, rfl, by intro i hi; omega⟩
  case round =>
    obtain ⟨k, hk, rfl, hall⟩ := hrel
    have HA : Hid (∀ i, i < k → m i = true → 0 ≤ q i ∧ q i ≤ 3) := hall
    clear hall
    by_cases hlt : k < n3
    · obtain ⟨b0, o0, rfl, lt0, d0⟩ := R0.out.plain (by omega)
      obtain ⟨b1, o1, rfl, lt1, d1⟩ := R1.out.plain (by omega)
      have k1 : (k : Int) < (n3 : Int) := by omega
      have e1 : w.cell? ⟨b1, o1 + k, none⟩ = some (.int .i64 (q k)) := d1 k hlt
      have e0' : w.cell? ⟨b0, o0 + k, none⟩ = some (.bool (m k)) := d0 k hlt
      clear d0 d1
      have next : (m k = true → 0 ≤ q k ∧ q k ≤ 3) → ∀ i, i < k + 1 → m i = true → 0 ≤ q i ∧ q i ≤ 3 := by
        intro h i hi
        by_cases e : i = k
        · subst e; exact h
        · exact HA.out i (by omega)
      have NX : Hid ((m k = true → 0 ≤ q k ∧ q k ≤ 3) → ∀ i, i < k + 1 → m i = true → 0 ≤ q i ∧ q i ≤ 3) := next
      clear next
      cases hm : m k with
      | false =>
        have e0 : w.cell? ⟨b0, o0 + k, none⟩ = some (.bool false) := by rw [e0', hm]
        have HM : Hid (m k = false) := hm
        clear e0' hm
        go_wp2
        go_round
        case rel => exact ⟨k + 1, by omega, by go_num, NX.out (by rw [HM.out]; simp)⟩
        case measure => simp [intOf]; omega
      | true =>
        have e0 : w.cell? ⟨b0, o0 + k, none⟩ = some (.bool true) := by rw [e0', hm]
        clear e0' hm
        by_cases h0 : 0 ≤ q k
        · have j0 : ¬ (q k < 0) := by omega
          by_cases h3 : q k ≤ 3
          · have j3 : ¬ (3 < q k) := by omega
            go_wp2
            go_round
            case rel => exact ⟨k + 1, by omega, by go_num, NX.out (fun _ => ⟨h0, h3⟩)⟩
            case measure => simp [intOf]; omega
          · have j3 : 3 < q k := by omega
            go_wp2
            go_ret
            exact ⟨false, rfl, rfl, by simp⟩
        · have j0 : q k < 0 := by omega
          go_wp2
          go_ret
          exact ⟨false, rfl, rfl, by simp⟩
    · obtain rfl : n3 = k := by omega
      have k1 : ¬ ((n3 : Int) < (n3 : Int)) := by omega
      go_wp2
      go_ret
      exact ⟨true, rfl, rfl, fun _ => ⟨rfl, rfl, rfl, rfl, HA.out⟩⟩
end Go.Proofs.Qxb6602967a

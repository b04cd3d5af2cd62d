import Derived.Test.Qxb6602671aTake
import Derived.Test.Qxb6602671aKit
namespace Go.Proofs.Qxb6602671a
open Go.RowKit Go.Kx
set_option linter.unusedVariables false

set_option maxRecDepth 100000 in
set_option maxHeartbeats 400000 in
theorem law_big (v0 v1 v2 v3 v4 v5 : Int) (x6 x7 : Bool) (a : Option Addr) (n c : Nat) (t0 t1 t2 t3 : Int) (x : Bool) (w : World) (hn : ¬ n ≤ 1048576) :
    Calls Try.prog 5 #[.agg #[.int .u32 v0, .int .u32 v1, .int .u32 v2, .int .u32 v3, .int .u8 v4, .int .u32 v5, .bool x6, .bool x7, .slice a n c], .agg #[.int .u32 t0, .int .u32 t1, .int .u8 t2, .int .u32 t3], .bool x] w fun e w' =>
      e = .returned (.bool true) ∧ Below w.heap.size w w' := by
  have hd : decide (n ≤ 1048576) = false := by simpa using hn
  go_enter Try.func5, Try.ntmps5
  go_wp2_with fail
  refine (bytes_any _ _ _ _ _ _ _ _ _ _ _ _ _ _ _ _ _).mono ?_
  rintro e w1 ⟨rfl, hb1⟩
  rw [hd]
  go_wp2
  go_ret
  exact ⟨rfl, (((Below.refl _ _).alloc (Nat.le_refl _) _).alloc (by simp) _).trans (hb1.mono (by simp; omega))⟩

set_option maxRecDepth 100000 in
set_option maxHeartbeats 1000000 in
theorem law_any (v0 v1 v2 v3 v4 v5 : Int) (x6 x7 : Bool) (a : Option Addr) (n c : Nat) (zs : List Int) (t0 t1 t2 t3 : Int) (x : Bool) (w : World) (hn : n ≤ 1048576) (hB : Bs w a n c zs) :
    Calls Try.prog 5 #[.agg #[.int .u32 v0, .int .u32 v1, .int .u32 v2, .int .u32 v3, .int .u8 v4, .int .u32 v5, .bool x6, .bool x7, .slice a n c], .agg #[.int .u32 t0, .int .u32 t1, .int .u8 t2, .int .u32 t3], .bool x] w fun e w' =>
      e = .returned (.bool true) ∧ Below w.heap.size w w' := by
  have hd : decide (n ≤ 1048576) = true := by simpa using hn
  have hd2 : ¬ ((1048576 : Int) < (n : Int)) := by omega
  have HB : Hid (Bs w a n c zs) := hB
  clear hB
  go_enter Try.func5, Try.ntmps5
  go_wp2_with fail
  refine (bytes_any _ _ _ _ _ _ _ _ _ _ _ _ _ _ _ _ _).mono ?_
  rintro e w1 ⟨rfl, hb1⟩
  rw [hd]
  have S1 := ((Blk.new w #[.int .u32 v0, .int .u32 v1, .int .u32 v2, .int .u32 v3, .int .u8 v4, .int .u32 v5, .bool x6, .bool x7, .slice a n c] 37).alloc (.cells #[.int .u32 t0, .int .u32 t1, .int .u8 t2, .int .u32 t3] 39)).later hb1
  have M1 := (Blk.new (w.alloc (.cells #[.int .u32 v0, .int .u32 v1, .int .u32 v2, .int .u32 v3, .int .u8 v4, .int .u32 v5, .bool x6, .bool x7, .slice a n c] 37)) #[.int .u32 t0, .int .u32 t1, .int .u8 t2, .int .u32 t3] 39).later hb1
  have E1 := below_next (below_alloc (below_alloc (Below.refl w.heap.size w) _) _) hb1
  have B1 : Hid (Bs w1 a n c zs) := HB.out.later E1
  rw [World.size_alloc] at M1
  clear HB hb1
  have s1 := S1.cell
  go_wp2_with fail
  refine (clone_any a n c zs _ B1.out hn).mono ?_
  rintro e w2 ⟨a1, c1, rfl, B2, i2, k2, hb2⟩
  have S2 := S1.later hb2
  have M2 := M1.later hb2
  have E2 := below_next E1 hb2
  have B2' := B2.set ⟨w.heap.size, 8, none⟩ (.slice a1 n c1) (fun y hy => by have := k2 y hy; have := S1.lt; simp; omega)
  have S2' : Blk (w2.setCell ⟨w.heap.size, 8, none⟩ (.slice a1 n c1)) w.heap.size #[.int .u32 v0, .int .u32 v1, .int .u32 v2, .int .u32 v3, .int .u8 v4, .int .u32 v5, .bool x6, .bool x7, .slice a1 n c1] 37 := S2.set 8 _
  have M2' := M2.other ⟨w.heap.size, 8, none⟩ (.slice a1 n c1) (by simp)
  have E2' := below_set E2 (p := ⟨w.heap.size, 8, none⟩) (Nat.le_refl _) (.slice a1 n c1)
  have K2 : Hid (∀ y, a1 = some y → y.block = w1.heap.size) := k2
  clear S1 M1 E1 B1 s1 hb2 k2
  have s2 := S2.cell
  have f2 := S2.free
  go_wp2_with fail
  clear s2 f2 S2 M2 E2 B2
  refine (clone_any a1 n c1 zs _ B2' hn).mono ?_
  rintro e w3 ⟨a2, c2, rfl, B3, i3, k3, hb3⟩
  have S3 := S2'.later hb3
  have M3 := M2'.later hb3
  have E3 := below_next E2' hb3
  have P3 := B2'.later hb3
  clear S2' M2' E2' hb3 B2' k3
  have s3 := S3.cell
  go_wp2_with fail
  refine (clone_any a1 n c1 zs _ P3 hn).mono ?_
  rintro e w4 ⟨a3, c3, rfl, B4, i4, k4, hb4⟩
  have S4 := S3.later hb4
  have M4 := M3.later hb4
  have E4 := below_next E3 hb4
  have Q4 := B3.later hb4
  clear S3 M3 E3 P3 s3 B3 k4 hb4
  have s4 := S4.cell
  have l4 := S4.lt
  go_wp2_with fail
  refine (new_any v0 v1 v2 v3 v4 v5 x6 x7 a2 n c2 _).mono ?_
  rintro e w5 ⟨rfl, rfl⟩
  go_wp2_with fail
  refine (new_any v0 v1 v2 v3 v4 v5 x6 x7 a3 n c3 _).mono ?_
  rintro e w6 ⟨rfl, rfl⟩
  have m4 := M4.cell
  have n4 := M4.lt
  go_wp2_with fail
  refine (mh_any t0 t1 t2 t3 _).mono ?_
  rintro e w7 ⟨rfl, hb7⟩
  have A7 := ((Blk.new w4 #[.int .u32 v0, .int .u32 v1, .int .u32 v2, .int .u32 v3, .int .u8 v4, .int .u32 v5, .bool x6, .bool x7, .slice a2 n c2] 50).alloc _).later hb7
  have D7 := (Blk.new (w4.alloc (.cells #[.int .u32 v0, .int .u32 v1, .int .u32 v2, .int .u32 v3, .int .u8 v4, .int .u32 v5, .bool x6, .bool x7, .slice a2 n c2] 50)) #[.int .u32 v0, .int .u32 v1, .int .u32 v2, .int .u32 v3, .int .u8 v4, .int .u32 v5, .bool x6, .bool x7, .slice a3 n c3] 50).later hb7
  rw [World.size_alloc] at D7
  have S7 := ((S4.alloc _).alloc _).later hb7
  have M7 := ((M4.alloc _).alloc _).later hb7
  have F7 := below_next (below_alloc (below_alloc (Below.refl _ _) _) _) hb7
  have E7 := below_next E4 F7
  have Q7 := Q4.later F7
  have R7 := B4.later F7
  clear s4 m4 S4 M4 E4 Q4 B4 hb7 F7
  have hne : w4.heap.size ≠ w4.heap.size + 1 := by omega
  have hS : w.heap.size ≠ w4.heap.size := by omega
  have hM : w.heap.size + 1 ≠ w4.heap.size := by omega
  have hS' : w.heap.size ≠ w4.heap.size + 1 := by omega
  have hM' : w.heap.size + 1 ≠ w4.heap.size + 1 := by omega
  have i34 : a3.isNone = a2.isNone := i4.trans i3.symm
  clear i2 K2 i3 i4
  by_cases h0 : n = 0
  · subst h0
    go_wp2_with fail
    refine (take3_out w4.heap.size a2 c2 t0 t1 t2 t3 v1 v2 x w7 A7.lt (A7.cell 8) (A7.cell 1) (A7.cell 2) (A7.free 1)).mono ?_
    rintro e w8 ⟨rfl, hb8⟩
    have A8 := (A7.set 1 (.int .u32 ((v1 + v2) % 4294967296))).below hb8 A7.lt
    have D8 := (D7.other ⟨w4.heap.size, 1, none⟩ (.int .u32 ((v1 + v2) % 4294967296)) (by simp)).below hb8 D7.lt
    have S8 := (S7.other ⟨w4.heap.size, 1, none⟩ (.int .u32 ((v1 + v2) % 4294967296)) hS).below hb8 S7.lt
    have M8 := (M7.other ⟨w4.heap.size, 1, none⟩ (.int .u32 ((v1 + v2) % 4294967296)) hM).below hb8 M7.lt
    have E8 : Below w.heap.size w w8 := (below_set E7 (p := ⟨w4.heap.size, 1, none⟩) (by simp; omega) (.int .u32 ((v1 + v2) % 4294967296))).trans (hb8.mono E7.size)
    have z8 : zs = [] := List.eq_nil_of_length_eq_zero Q7.1
    have Q8 : Bs w8 a2 0 c2 zs := ⟨Q7.1, Q7.2.1, fun _ _ j hj => by omega⟩
    have R8 : Bs w8 a3 0 c3 zs := ⟨R7.1, R7.2.1, fun _ _ j hj => by omega⟩
    clear A7 D7 S7 M7 E7 Q7 R7 hb8
    have s8 := S8.cell
    have m8 := M8.cell
    have l8 := S8.lt
    have l8' := M8.lt
    go_wp2_with fail
    have D8' := D8.alloc (.cells #[.int .u32 v2, .int .u32 t1, .int .u8 t2, .int .u32 t3] 44)
    refine (take2 (w4.heap.size + 1) t1 t2 t3 v1 v2 v2 x6 x6 _ D8'.lt (D8'.cell 1) (D8'.cell 2) (D8'.cell 6) (D8'.free 1) (D8'.free 2) (D8'.free 6)).mono ?_
    rintro e w9 ⟨rfl, hb9⟩
    have D9 := (((D8'.set 1 (.int .u32 ((v1 + v2) % 4294967296))).set 2 (.int .u32 v2)).set 6 (.bool x6)).below hb9 D8'.lt
    have A8' := A8.alloc (.cells #[.int .u32 v2, .int .u32 t1, .int .u8 t2, .int .u32 t3] 44)
    have A9 := (((A8'.other ⟨w4.heap.size + 1, 1, none⟩ (.int .u32 ((v1 + v2) % 4294967296)) hne).other ⟨w4.heap.size + 1, 2, none⟩ (.int .u32 v2) hne).other ⟨w4.heap.size + 1, 6, none⟩ (.bool x6) hne).below hb9 A8'.lt
    have E8' := below_alloc E8 (.cells #[.int .u32 v2, .int .u32 t1, .int .u8 t2, .int .u32 t3] 44)
    have hle : w.heap.size ≤ w4.heap.size + 1 := by omega
    have E9 : Below w.heap.size w w9 := (below_set (below_set (below_set E8' (p := ⟨w4.heap.size + 1, 1, none⟩) hle (.int .u32 ((v1 + v2) % 4294967296))) (p := ⟨w4.heap.size + 1, 2, none⟩) hle (.int .u32 v2)) (p := ⟨w4.heap.size + 1, 6, none⟩) hle (.bool x6)).trans (hb9.mono E8'.size)
    have Q9 : Bs w9 a2 0 c2 zs := ⟨Q8.1, Q8.2.1, fun _ _ j hj => by omega⟩
    have R9 : Bs w9 a3 0 c3 zs := ⟨R8.1, R8.2.1, fun _ _ j hj => by omega⟩
    clear s8 m8 l8 l8' A8 D8 S8 M8 E8 Q8 R8 D8' A8' E8' hb9
    go_wp2_with fail
    refine (fields_any w4.heap.size _ _ _ _ _ _ _ _ _ w9 (A9.cell 0) (A9.cell 1) (A9.cell 2) (A9.cell 3) (A9.cell 4) (A9.cell 5) (A9.cell 6) (A9.cell 7) (A9.cell 8)).mono ?_
    rintro e w10 ⟨rfl, hb10⟩
    have D10 := D9.later hb10
    have E10 := below_next E9 hb10
    have Q10 := Q9.later hb10
    have R10 := R9.later hb10
    clear A9 D9 E9 Q9 R9 hb10
    go_wp2_with fail
    refine (fields_any (w4.heap.size + 1) _ _ _ _ _ _ _ _ _ w10 (D10.cell 0) (D10.cell 1) (D10.cell 2) (D10.cell 3) (D10.cell 4) (D10.cell 5) (D10.cell 6) (D10.cell 7) (D10.cell 8)).mono ?_
    rintro e w11 ⟨rfl, hb11⟩
    have E11 := below_next E10 hb11
    have Q11 := Q10.later hb11
    have R11 := R10.later hb11
    clear D10 E10 Q10 R10 hb11
    go_wp2_with fail
    refine (same_any a2 a3 0 c2 c3 zs w11 Q11 R11 hn i34).mono ?_
    rintro e w12 ⟨rfl, hb12⟩
    have E12 := below_next E11 hb12
    clear E11 Q11 R11 hb12
    go_wp2
    go_ret
    exact ⟨rfl, E12⟩
  · have hn0 : ((n : Int) == 0) = false := by simp; omega
    go_wp2_with fail
    refine (take3_in w4.heap.size a2 n c2 t0 t1 t2 t3 x w7 A7.lt (A7.cell 8) (by omega)).mono ?_
    rintro e w8 ⟨rfl, hb8⟩
    have A8 := A7.later hb8
    have D8 := D7.later hb8
    have S8 := S7.later hb8
    have E8 := below_next E7 hb8
    have Q8 := Q7.later hb8
    have R8 := R7.later hb8
    clear A7 D7 S7 M7 E7 Q7 R7 hb8
    have s8 := S8.cell
    go_wp2_with fail
    clear s8
    refine (fields_any w4.heap.size _ _ _ _ _ _ _ _ _ w8 (A8.cell 0) (A8.cell 1) (A8.cell 2) (A8.cell 3) (A8.cell 4) (A8.cell 5) (A8.cell 6) (A8.cell 7) (A8.cell 8)).mono ?_
    rintro e w9 ⟨rfl, hb9⟩
    have D9 := D8.later hb9
    have E9 := below_next E8 hb9
    have Q9 := Q8.later hb9
    have R9 := R8.later hb9
    clear A8 D8 S8 E8 Q8 R8 hb9
    go_wp2_with fail
    refine (fields_any (w4.heap.size + 1) _ _ _ _ _ _ _ _ _ w9 (D9.cell 0) (D9.cell 1) (D9.cell 2) (D9.cell 3) (D9.cell 4) (D9.cell 5) (D9.cell 6) (D9.cell 7) (D9.cell 8)).mono ?_
    rintro e w10 ⟨rfl, hb10⟩
    have E10 := below_next E9 hb10
    have Q10 := Q9.later hb10
    have R10 := R9.later hb10
    clear D9 E9 Q9 R9 hb10
    go_wp2_with fail
    refine (same_any a2 a3 n c2 c3 zs w10 Q10 R10 hn i34).mono ?_
    rintro e w11 ⟨rfl, hb11⟩
    have E11 := below_next E10 hb11
    clear E10 Q10 R10 hb11
    go_wp2
    go_ret
    exact ⟨rfl, E11⟩
end Go.Proofs.Qxb6602671a

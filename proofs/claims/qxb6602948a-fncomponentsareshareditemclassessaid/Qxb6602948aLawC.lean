import Derived.Test.Qxb6602948aZc
import Derived.Test.Qxb6602948aGlen
import Derived.Test.Qxb6602948aLawBase
import Derived.Test.Qxb6602948aMd
namespace Go.Proofs.Qxb6602948a
open Go.RowKit Go.Kx Go.Uf
set_option linter.unusedVariables false

set_option maxRecDepth 100000 in
set_option maxHeartbeats 800000 in
theorem classLaw (T : Int) (imp : Bool) (a0 a3 a4 a5 a6 a7 : Option Addr) (n0 n3 n4 n5 n6 n7 c0 c3 c4 c5 c6 c7 : Nat) (z0 rS rI rw wS wI : Nat → Int) (w : World)
    (r0 : Rw w a0 n0 c0 (ints .u64 z0)) (r3 : Rw w a3 n3 c3 (ints .i64 rS)) (r4 : Rw w a4 n4 c4 (ints .i32 rI)) (r5 : Rw w a5 n5 c5 (ints .i32 rw)) (r6 : Rw w a6 n6 c6 (ints .i64 wS)) (r7 : Rw w a7 n7 c7 (ints .i32 wI))
    (b4 : ∀ j, -2147483648 ≤ rI j ∧ rI j ≤ 2147483647) (b7 : ∀ j, -2147483648 ≤ wI j ∧ wI j ≤ 2147483647) :
    Calls Try.prog 4 #[.slice a0 n0 c0, .int .i64 T, .bool imp, .slice a3 n3 c3, .slice a4 n4 c4, .slice a5 n5 c5, .slice a6 n6 c6, .slice a7 n7 c7] w fun e w' => e = .returned (.bool true) ∧ Below w.heap.size w w' := by
  have R0 : Hid (Rw w a0 n0 c0 (ints .u64 z0)) := r0
  have R3 : Hid (Rw w a3 n3 c3 (ints .i64 rS)) := r3
  have R4 : Hid (Rw w a4 n4 c4 (ints .i32 rI)) := r4
  have R5 : Hid (Rw w a5 n5 c5 (ints .i32 rw)) := r5
  have R6 : Hid (Rw w a6 n6 c6 (ints .i64 wS)) := r6
  have R7 : Hid (Rw w a7 n7 c7 (ints .i32 wI)) := r7
  have B4 : Hid (∀ j, -2147483648 ≤ rI j ∧ rI j ≤ 2147483647) := b4
  have B7 : Hid (∀ j, -2147483648 ≤ wI j ∧ wI j ≤ 2147483647) := b7
  clear r0 r3 r4 r5 r6 r7 b4 b7
  go_enter Try.func4, Try.ntmps4
  go_wp2_with fail
  refine (bytes15 _ _ _ _ _ _ _ _ _ _ _ _ _ _ _ _ _ _ _ _ _).mono ?_
  rintro e w' ⟨b, rfl, rfl⟩
  cases b with
  | false =>
    go_wp2
    go_ret
    exact ⟨rfl, Below.refl _ _⟩
  | true =>
  by_cases ln0 : n0 ≤ 4096
  rotate_left
  · have d : decide ((4096 : Int) < (n0 : Int)) = true := decide_eq_true (by omega)
    go_wp2
    go_ret
    exact ⟨rfl, Below.refl _ _⟩
  have dn0 : decide ((4096 : Int) < (n0 : Int)) = false := decide_eq_false (by omega)
  by_cases ln3 : n3 ≤ 4097
  rotate_left
  · have d : decide ((4097 : Int) < (n3 : Int)) = true := decide_eq_true (by omega)
    go_wp2
    go_ret
    exact ⟨rfl, Below.refl _ _⟩
  have dn3 : decide ((4097 : Int) < (n3 : Int)) = false := decide_eq_false (by omega)
  by_cases ln4 : n4 ≤ 16384
  rotate_left
  · have d : decide ((16384 : Int) < (n4 : Int)) = true := decide_eq_true (by omega)
    go_wp2
    go_ret
    exact ⟨rfl, Below.refl _ _⟩
  have dn4 : decide ((16384 : Int) < (n4 : Int)) = false := decide_eq_false (by omega)
  by_cases ln5 : n5 ≤ 16384
  rotate_left
  · have d : decide ((16384 : Int) < (n5 : Int)) = true := decide_eq_true (by omega)
    go_wp2
    go_ret
    exact ⟨rfl, Below.refl _ _⟩
  have dn5 : decide ((16384 : Int) < (n5 : Int)) = false := decide_eq_false (by omega)
  by_cases ln6 : n6 ≤ 4097
  rotate_left
  · have d : decide ((4097 : Int) < (n6 : Int)) = true := decide_eq_true (by omega)
    go_wp2
    go_ret
    exact ⟨rfl, Below.refl _ _⟩
  have dn6 : decide ((4097 : Int) < (n6 : Int)) = false := decide_eq_false (by omega)
  by_cases ln7 : n7 ≤ 16384
  rotate_left
  · have d : decide ((16384 : Int) < (n7 : Int)) = true := decide_eq_true (by omega)
    go_wp2
    go_ret
    exact ⟨rfl, Below.refl _ _⟩
  have dn7 : decide ((16384 : Int) < (n7 : Int)) = false := decide_eq_false (by omega)
  by_cases lT : 0 ≤ T
  rotate_left
  · have d : decide (T < 0) = true := decide_eq_true (by omega)
    go_wp2
    go_ret
    exact ⟨rfl, Below.refl _ _⟩
  have dT : decide (T < 0) = false := decide_eq_false (by omega)
  by_cases lT2 : T ≤ 65536
  rotate_left
  · have d : decide ((65536 : Int) < T) = true := decide_eq_true (by omega)
    go_wp2
    go_ret
    exact ⟨rfl, Below.refl _ _⟩
  have dT2 : decide ((65536 : Int) < T) = false := decide_eq_false (by omega)
  obtain ⟨items, rfl⟩ := Int.eq_ofNat_of_zero_le lT
  have lit : items ≤ 65536 := by omega
  clear lT lT2
  go_wp2_with fail
  refine (histOK_any n0 items a3 n3 c3 rS a4 n4 c4 rI a5 n5 c5 a6 n6 c6 wS a7 n7 c7 wI _ R3.out R4.out R6.out R7.out B4.out B7.out (by omega) (by omega) (by omega) (by omega) (by omega) (by omega) (by omega)).mono ?_
  rintro e w1 ⟨b, rfl, hok, hb1⟩
  cases b with
  | false =>
    clear hok
    go_wp2
    go_ret
    exact ⟨rfl, hb1⟩
  | true =>
  have OK : Hid (HOk n0 items n4 n5 n7 n3 n6 rS rI wS wI) := hok rfl
  clear hok
  obtain rfl : n4 = n5 := OK.out.len.symm
  obtain rfl : n0 + 1 = n3 := OK.out.rs.len.symm
  obtain rfl : n0 + 1 = n6 := OK.out.ws.len.symm
  have f32 : ∀ (z : Nat → Int) (j : Nat), (ints .i32 z j).oneCell' = true := fun _ _ => rfl
  have f64 : ∀ (z : Nat → Int) (j : Nat), (ints .i64 z j).oneCell' = true := fun _ _ => rfl
  have fu64 : ∀ (z : Nat → Int) (j : Nat), (ints .u64 z j).oneCell' = true := fun _ _ => rfl
  have E1 : Hid (Below w.heap.size w w1) := hb1
  clear hb1
  go_wp2_with fail
  refine (cloneU64_any a0 n0 c0 _ _ (R0.out.later E1.out) (fu64 z0) (by omega)).mono ?_
  rintro e w2 ⟨a0', c0', rfl, K0⟩
  have E2 : Hid (Below w.heap.size w w2) := below_next E1.out K0.1
  clear K0 E1 R0
  go_wp2_with fail
  refine (cloneInts_any a3 (n0 + 1) c3 _ _ (R3.out.later E2.out) (f64 rS) (by omega)).mono ?_
  rintro e w3 ⟨a3', c3', rfl, K3⟩
  have E3 : Hid (Below w.heap.size w w3) := below_next E2.out K3.1
  have r3' := K3.rw
  clear K3 E2
  go_wp2_with fail
  refine (cloneI32_any a4 n4 c4 _ _ (R4.out.later E3.out) (f32 rI) (by omega)).mono ?_
  rintro e w4 ⟨a4', c4', rfl, K4⟩
  have E4 : Hid (Below w.heap.size w w4) := below_next E3.out K4.1
  have r4' := K4.rw
  have r34 := r3'.later K4.1
  clear K4 E3 r3'
  go_wp2_with fail
  refine (cloneI32_any a5 n4 c5 _ _ (R5.out.later E4.out) (f32 rw) (by omega)).mono ?_
  rintro e w5 ⟨a5', c5', rfl, K5⟩
  have E5 : Hid (Below w.heap.size w w5) := below_next E4.out K5.1
  have r5' := K5.rw
  have r35 := r34.later K5.1
  have r45 := r4'.later K5.1
  clear K5 E4 R5 r34 r4'
  go_wp2_with fail
  refine (cloneInts_any a6 (n0 + 1) c6 _ _ (R6.out.later E5.out) (f64 wS) (by omega)).mono ?_
  rintro e w6 ⟨a6', c6', rfl, K6⟩
  have E6 : Hid (Below w.heap.size w w6) := below_next E5.out K6.1
  have r6' := K6.rw
  have r36 := r35.later K6.1
  have r46 := r45.later K6.1
  have r56 := r5'.later K6.1
  clear K6 E5 r35 r45 r5'
  go_wp2_with fail
  refine (cloneI32_any a7 n7 c7 _ _ (R7.out.later E6.out) (f32 wI) (by omega)).mono ?_
  rintro e w7 ⟨a7', c7', rfl, K7⟩
  have E7 : Hid (Below w.heap.size w w7) := below_next E6.out K7.1
  have r7' := K7.rw
  obtain rfl := K7.cap.symm
  have r37 := r36.later K7.1
  have r47 := r46.later K7.1
  have r57 := r56.later K7.1
  have r67 := r6'.later K7.1
  clear K7 E6 r36 r46 r56 r6'
  have T3 : Hid (Rw w7 a3' (n0 + 1) c3' (ints .i64 rS)) := r37
  have T4 : Hid (Rw w7 a4' n4 c4' (ints .i32 rI)) := r47
  have T5 : Hid (Rw w7 a5' n4 c5' (ints .i32 rw)) := r57
  have T6 : Hid (Rw w7 a6' (n0 + 1) c6' (ints .i64 wS)) := r67
  have T7 : Hid (Rw w7 a7' n7 n7 (ints .i32 wI)) := r7'
  clear r37 r47 r57 r67 r7'
  go_wp2_with fail
  refine (hist_any a0' n0 c0' items imp a3' (n0 + 1) c3' a4' n4 c4' a5' c5' a6' (n0 + 1) c6' a7' n7 n7 rI rw _ T4.out T5.out (by omega)).mono ?_
  rintro e w8 ⟨H, rfl, hH, hHlt, hBq, hb8⟩
  have E8 : Hid (Below w.heap.size w w8) := below_next E7.out hb8
  have HB : Hid (Hb w8 H a0' n0 c0' items imp a3' c3' w7.heap.size n4 a6' c6' a7' n7 n7 rS rI rw wS wI) := ⟨hH, T3.out.later hb8, Rw2.of_blk hBq (Nat.le_refl _), T6.out.later hb8, T7.out.later hb8⟩
  have FI : Hid (Fine n0 items n4 n7 rS rI wS wI) := ⟨by omega, by omega, by omega, by omega, OK.out.rs, OK.out.ws, OK.out.ri, OK.out.wi⟩
  have F8 : Hid (Below w7.heap.size w7 w8) := hb8
  clear T5 hH hHlt hBq hb8 E7
  obtain ⟨lo, hlo0, hlo1⟩ : ∃ lo : Nat, (imp = false → lo = 0) ∧ (imp = true → lo = 1) := by cases imp; exact ⟨0, fun _ => rfl, by simp⟩; exact ⟨1, by simp, fun _ => rfl⟩
  go_wp2_with fail
  refine (zzcomp_any H lo a0' n0 c0' items imp a3' c3' w7.heap.size n4 a6' c6' a7' n7 n7 rS rI rw wS wI _ HB.out FI.out hlo0 hlo1 (by omega)).mono ?_
  rintro e w9 ⟨ag, cg, rfl, hlist, hb9⟩
  have E9 : Hid (Below w.heap.size w w9) := below_next E8.out hb9
  have F9 : Hid (Below w7.heap.size w7 w9) := below_next F8.out hb9
  have LI : Hid (Lists w9 ag cg (comps rS rI wS wI lo n0)) := hlist
  clear hlist hb9 HB E8 F8
  go_wp2_with fail
  refine (model_any lo n0 items imp a3' c3' a4' n4 c4' a6' c6' a7' n7 n7 rS rI wS wI _ (T3.out.later F9.out) (T4.out.later F9.out) (T6.out.later F9.out) (T7.out.later F9.out) FI.out hlo0 hlo1).mono ?_
  rintro e w10 ⟨ah, ch, rfl, hlist2, hb10⟩
  have E10 : Hid (Below w.heap.size w w10) := below_next E9.out hb10
  have L1 : Hid (Lists w10 ag cg (comps rS rI wS wI lo n0)) := LI.out.later hb10
  have L2 : Hid (Lists w10 ah ch (comps rS rI wS wI lo n0)) := hlist2
  have cl := comps_len rS rI wS wI lo n0
  clear hlist2 hb10 LI E9 F9 T3 T4 T6 T7
  go_wp2_with fail
  refine (sameLists_yes ag ah _ cg ch (comps rS rI wS wI lo n0) _ rfl L1.out L2.out (by omega) (fun j hj => by have := cl.2 j hj; omega)).mono ?_
  rintro e w11 ⟨rfl, hb11⟩
  go_wp2
  go_ret
  exact ⟨rfl, below_next E10.out hb11⟩
end Go.Proofs.Qxb6602948a

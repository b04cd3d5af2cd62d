import Derived.Test.Qxb6602967aJn
namespace Go.Proofs.Qxb6602967a
open Go.RowKit Go.Kx
set_option linter.unusedVariables false

set_option maxRecDepth 100000 in
set_option maxHeartbeats 2000000 in
theorem lawF (all : Int) (a0 a1 a2 a3 a4 a5 a6 a7 a8 a9 : Option Addr) (n0 n1 n2 n3 n4 n5 n6 n7 n8 n9 c0 c1 c2 c3 c4 c5 c6 c7 c8 c9 : Nat) (mA mB : Nat → Bool) (qA qB : Nat → Int) (nmA arA tA nmB arB tB : Nat → ByteArray) (w : World)
    (r0 : Rw w a0 n0 c0 (bools mA)) (r1 : Rw w a1 n1 c1 (ints .i64 qA)) (r2 : Rw w a2 n2 c2 (strs nmA)) (r3 : Rw w a3 n3 c3 (strs arA)) (r4 : Rw w a4 n4 c4 (strs tA)) (r5 : Rw w a5 n5 c5 (bools mB)) (r6 : Rw w a6 n6 c6 (ints .i64 qB)) (r7 : Rw w a7 n7 c7 (strs nmB)) (r8 : Rw w a8 n8 c8 (strs arB)) (r9 : Rw w a9 n9 c9 (strs tB)) :
    Calls Try.prog 9 #[.slice a0 n0 c0, .slice a1 n1 c1, .slice a2 n2 c2, .slice a3 n3 c3, .slice a4 n4 c4, .slice a5 n5 c5, .slice a6 n6 c6, .slice a7 n7 c7, .slice a8 n8 c8, .slice a9 n9 c9, .int .i64 all, .bool false] w fun e w' => e = .returned (.bool true) ∧ Below w.heap.size w w' := by
  have R0 : Hid (Rw w a0 n0 c0 (bools mA)) := r0
  have R1 : Hid (Rw w a1 n1 c1 (ints .i64 qA)) := r1
  have R2 : Hid (Rw w a2 n2 c2 (strs nmA)) := r2
  have R3 : Hid (Rw w a3 n3 c3 (strs arA)) := r3
  have R4 : Hid (Rw w a4 n4 c4 (strs tA)) := r4
  have R5 : Hid (Rw w a5 n5 c5 (bools mB)) := r5
  have R6 : Hid (Rw w a6 n6 c6 (ints .i64 qB)) := r6
  have R7 : Hid (Rw w a7 n7 c7 (strs nmB)) := r7
  have R8 : Hid (Rw w a8 n8 c8 (strs arB)) := r8
  have R9 : Hid (Rw w a9 n9 c9 (strs tB)) := r9
  clear r0 r1 r2 r3 r4 r5 r6 r7 r8 r9
  go_enter Try.func9, Try.ntmps9
  go_wp2_with fail
  refine (by_any all false a0 a1 a2 a3 a4 a5 a6 a7 a8 a9 n0 n1 n2 n3 n4 n5 n6 n7 n8 n9 c0 c1 c2 c3 c4 c5 c6 c7 c8 c9 nmA arA tA nmB arB tB _ R2.out R3.out R4.out R7.out R8.out R9.out).mono ?_
  rintro e w' ⟨b, rfl, hw⟩
  obtain rfl : w = w' := hw.symm
  cases b with
  | false =>
    go_wp2
    go_ret
    exact ⟨rfl, Below.refl _ _⟩
  | true =>
  by_cases ln0 : n0 ≤ 1048576
  rotate_left
  · have d : decide ((1048576 : Int) < (n0 : Int)) = true := decide_eq_true (by omega)
    go_wp2
    go_ret
    exact ⟨rfl, Below.refl _ _⟩
  have dn0 : decide ((1048576 : Int) < (n0 : Int)) = false := decide_eq_false (by omega)
  by_cases ln1 : n1 ≤ 1048576
  rotate_left
  · have d : decide ((1048576 : Int) < (n1 : Int)) = true := decide_eq_true (by omega)
    go_wp2
    go_ret
    exact ⟨rfl, Below.refl _ _⟩
  have dn1 : decide ((1048576 : Int) < (n1 : Int)) = false := decide_eq_false (by omega)
  by_cases ln2 : n2 ≤ 1048576
  rotate_left
  · have d : decide ((1048576 : Int) < (n2 : Int)) = true := decide_eq_true (by omega)
    go_wp2
    go_ret
    exact ⟨rfl, Below.refl _ _⟩
  have dn2 : decide ((1048576 : Int) < (n2 : Int)) = false := decide_eq_false (by omega)
  by_cases ln3 : n3 ≤ 1048576
  rotate_left
  · have d : decide ((1048576 : Int) < (n3 : Int)) = true := decide_eq_true (by omega)
    go_wp2
    go_ret
    exact ⟨rfl, Below.refl _ _⟩
  have dn3 : decide ((1048576 : Int) < (n3 : Int)) = false := decide_eq_false (by omega)
  by_cases ln4 : n4 ≤ 1048576
  rotate_left
  · have d : decide ((1048576 : Int) < (n4 : Int)) = true := decide_eq_true (by omega)
    go_wp2
    go_ret
    exact ⟨rfl, Below.refl _ _⟩
  have dn4 : decide ((1048576 : Int) < (n4 : Int)) = false := decide_eq_false (by omega)
  by_cases ln5 : n5 ≤ 1048576
  rotate_left
  · have d : decide ((1048576 : Int) < (n5 : Int)) = true := decide_eq_true (by omega)
    go_wp2
    go_ret
    exact ⟨rfl, Below.refl _ _⟩
  have dn5 : decide ((1048576 : Int) < (n5 : Int)) = false := decide_eq_false (by omega)
  by_cases ln6 : n6 ≤ 1048576
  rotate_left
  · have d : decide ((1048576 : Int) < (n6 : Int)) = true := decide_eq_true (by omega)
    go_wp2
    go_ret
    exact ⟨rfl, Below.refl _ _⟩
  have dn6 : decide ((1048576 : Int) < (n6 : Int)) = false := decide_eq_false (by omega)
  by_cases ln7 : n7 ≤ 1048576
  rotate_left
  · have d : decide ((1048576 : Int) < (n7 : Int)) = true := decide_eq_true (by omega)
    go_wp2
    go_ret
    exact ⟨rfl, Below.refl _ _⟩
  have dn7 : decide ((1048576 : Int) < (n7 : Int)) = false := decide_eq_false (by omega)
  by_cases ln8 : n8 ≤ 1048576
  rotate_left
  · have d : decide ((1048576 : Int) < (n8 : Int)) = true := decide_eq_true (by omega)
    go_wp2
    go_ret
    exact ⟨rfl, Below.refl _ _⟩
  have dn8 : decide ((1048576 : Int) < (n8 : Int)) = false := decide_eq_false (by omega)
  by_cases ln9 : n9 ≤ 1048576
  rotate_left
  · have d : decide ((1048576 : Int) < (n9 : Int)) = true := decide_eq_true (by omega)
    go_wp2
    go_ret
    exact ⟨rfl, Below.refl _ _⟩
  have dn9 : decide ((1048576 : Int) < (n9 : Int)) = false := decide_eq_false (by omega)
  go_wp2_with fail
  refine (tbytes_any a0 a1 a2 a3 a4 n0 n1 n2 n3 n4 c0 c1 c2 c3 c4 nmA arA tA _ ln0 ln1 R2.out R3.out R4.out).mono ?_
  rintro e w' ⟨v, rfl, hv0, hv1, hvA, hw⟩
  obtain rfl : w = w' := hw.symm
  have HVA : Hid (v ≤ 1048576 → n4 ≤ 1048576 ∧ ∀ i, i < n4 → (tA i).size ≤ 1048576) := hvA
  clear hvA
  by_cases hv : v ≤ 1048576
  rotate_left
  · have d : decide ((1048576 : Int) < v) = true := decide_eq_true (by omega)
    go_wp2
    go_ret
    exact ⟨rfl, Below.refl _ _⟩
  have dv : decide ((1048576 : Int) < v) = false := decide_eq_false (by omega)
  go_wp2_with fail
  refine (tbytes_any a5 a6 a7 a8 a9 n5 n6 n7 n8 n9 c5 c6 c7 c8 c9 nmB arB tB _ ln5 ln6 R7.out R8.out R9.out).mono ?_
  rintro e w' ⟨u, rfl, hu0, hu1, huB, hw⟩
  obtain rfl : w = w' := hw.symm
  have HVB : Hid (u ≤ 1048576 → n9 ≤ 1048576 ∧ ∀ i, i < n9 → (tB i).size ≤ 1048576) := huB
  clear huB
  by_cases hu : v + u ≤ 1048576
  rotate_left
  · have d : decide ((1048576 : Int) < v + u) = true := decide_eq_true (by omega)
    go_wp2
    go_ret
    exact ⟨rfl, Below.refl _ _⟩
  have du : decide ((1048576 : Int) < v + u) = false := decide_eq_false (by omega)
  have SAA : Hid (∀ i, i < n4 → (tA i).size ≤ 1048576) := (HVA.out hv).2
  have SA : Hid (∀ i, i < n4 → (tA i).size ≤ 1048576) := (HVA.out hv).2
  have SB : Hid (∀ i, i < n9 → (tB i).size ≤ 1048576) := (HVB.out (by omega)).2
  clear HVA HVB
  go_wp2_with fail
  refine (wf_any a0 a1 a2 a3 a4 n0 n1 n2 n3 n4 c0 c1 c2 c3 c4 mA qA _ R0.out R1.out ln4).mono ?_
  rintro e w' ⟨b, rfl, hw, hA⟩
  obtain rfl : w = w' := hw.symm
  cases b with
  | false =>
    clear hA
    go_wp2
    go_ret
    exact ⟨rfl, Below.refl _ _⟩
  | true =>
  obtain ⟨eA0, eA1, eA2, eA3, hqA⟩ := hA rfl
  clear hA
  have QA : Hid (∀ i, i < n4 → mA i = true → 0 ≤ qA i ∧ qA i ≤ 3) := hqA
  clear hqA
  obtain rfl : n4 = n0 := eA0.symm
  obtain rfl : n4 = n1 := eA1.symm
  obtain rfl : n4 = n2 := eA2.symm
  obtain rfl : n4 = n3 := eA3.symm
  go_wp2_with fail
  refine (wf_any a5 a6 a7 a8 a9 n5 n6 n7 n8 n9 c5 c6 c7 c8 c9 mB qB _ R5.out R6.out ln9).mono ?_
  rintro e w' ⟨b, rfl, hw, hB⟩
  obtain rfl : w = w' := hw.symm
  cases b with
  | false =>
    clear hB
    go_wp2
    go_ret
    exact ⟨rfl, Below.refl _ _⟩
  | true =>
  obtain ⟨eB0, eB1, eB2, eB3, hqB⟩ := hB rfl
  clear hB
  have QB : Hid (∀ i, i < n9 → mB i = true → 0 ≤ qB i ∧ qB i ≤ 3) := hqB
  clear hqB
  obtain rfl : n9 = n5 := eB0.symm
  obtain rfl : n9 = n6 := eB1.symm
  obtain rfl : n9 = n7 := eB2.symm
  obtain rfl : n9 = n8 := eB3.symm
  have HALL : Hid (false = true → 0 ≤ all ∧ all ≤ 3) := fun h => by cases h
  go_wp2_with fail
  refine (cloneB_any a0 n4 c0 mA _ R0.out (by omega)).mono ?_
  rintro e w1 ⟨b0, d0, rfl, k0, hb0⟩
  have E1 : Hid (Below w.heap.size w w1) := hb0
  have T0_0 : Hid (Rw w1 b0 n4 d0 (bools mA)) := k0
  clear k0 hb0 R0
  go_wp2_with fail
  refine (cloneI_any a1 n4 c1 qA _ (R1.out.later E1.out) (by omega)).mono ?_
  rintro e w2 ⟨b1, d1, rfl, k1, hb1⟩
  have E2 : Hid (Below w.heap.size w w2) := below_next E1.out hb1
  have T1_1 : Hid (Rw w2 b1 n4 d1 (ints .i64 qA)) := k1
  have T0_1 : Hid (Rw w2 b0 n4 d0 (bools mA)) := T0_0.out.later hb1
  clear k1 hb1 R1 T0_0 E1
  go_wp2_with fail
  refine (cloneS_any a2 n4 c2 nmA _ (R2.out.later E2.out) (by omega)).mono ?_
  rintro e w3 ⟨b2, d2, rfl, k2, hb2⟩
  have E3 : Hid (Below w.heap.size w w3) := below_next E2.out hb2
  have T2_2 : Hid (Rw w3 b2 n4 d2 (strs nmA)) := k2
  have T0_2 : Hid (Rw w3 b0 n4 d0 (bools mA)) := T0_1.out.later hb2
  have T1_2 : Hid (Rw w3 b1 n4 d1 (ints .i64 qA)) := T1_1.out.later hb2
  clear k2 hb2 R2 T0_1 T1_1 E2
  go_wp2_with fail
  refine (cloneS_any a3 n4 c3 arA _ (R3.out.later E3.out) (by omega)).mono ?_
  rintro e w4 ⟨b3, d3, rfl, k3, hb3⟩
  have E4 : Hid (Below w.heap.size w w4) := below_next E3.out hb3
  have T3_3 : Hid (Rw w4 b3 n4 d3 (strs arA)) := k3
  have T0_3 : Hid (Rw w4 b0 n4 d0 (bools mA)) := T0_2.out.later hb3
  have T1_3 : Hid (Rw w4 b1 n4 d1 (ints .i64 qA)) := T1_2.out.later hb3
  have T2_3 : Hid (Rw w4 b2 n4 d2 (strs nmA)) := T2_2.out.later hb3
  clear k3 hb3 R3 T0_2 T1_2 T2_2 E3
  go_wp2_with fail
  refine (cloneS_any a4 n4 c4 tA _ (R4.out.later E4.out) (by omega)).mono ?_
  rintro e w5 ⟨b4, d4, rfl, k4, hb4⟩
  have E5 : Hid (Below w.heap.size w w5) := below_next E4.out hb4
  have T4_4 : Hid (Rw w5 b4 n4 d4 (strs tA)) := k4
  have T0_4 : Hid (Rw w5 b0 n4 d0 (bools mA)) := T0_3.out.later hb4
  have T1_4 : Hid (Rw w5 b1 n4 d1 (ints .i64 qA)) := T1_3.out.later hb4
  have T2_4 : Hid (Rw w5 b2 n4 d2 (strs nmA)) := T2_3.out.later hb4
  have T3_4 : Hid (Rw w5 b3 n4 d3 (strs arA)) := T3_3.out.later hb4
  clear k4 hb4 R4 T0_3 T1_3 T2_3 T3_3 E4
  go_wp2_with fail
  refine (cloneB_any a5 n9 c5 mB _ (R5.out.later E5.out) (by omega)).mono ?_
  rintro e w6 ⟨b5, d5, rfl, k5, hb5⟩
  have E6 : Hid (Below w.heap.size w w6) := below_next E5.out hb5
  have T5_5 : Hid (Rw w6 b5 n9 d5 (bools mB)) := k5
  have T0_5 : Hid (Rw w6 b0 n4 d0 (bools mA)) := T0_4.out.later hb5
  have T1_5 : Hid (Rw w6 b1 n4 d1 (ints .i64 qA)) := T1_4.out.later hb5
  have T2_5 : Hid (Rw w6 b2 n4 d2 (strs nmA)) := T2_4.out.later hb5
  have T3_5 : Hid (Rw w6 b3 n4 d3 (strs arA)) := T3_4.out.later hb5
  have T4_5 : Hid (Rw w6 b4 n4 d4 (strs tA)) := T4_4.out.later hb5
  clear k5 hb5 R5 T0_4 T1_4 T2_4 T3_4 T4_4 E5
  go_wp2_with fail
  refine (cloneI_any a6 n9 c6 qB _ (R6.out.later E6.out) (by omega)).mono ?_
  rintro e w7 ⟨b6, d6, rfl, k6, hb6⟩
  have E7 : Hid (Below w.heap.size w w7) := below_next E6.out hb6
  have T6_6 : Hid (Rw w7 b6 n9 d6 (ints .i64 qB)) := k6
  have T0_6 : Hid (Rw w7 b0 n4 d0 (bools mA)) := T0_5.out.later hb6
  have T1_6 : Hid (Rw w7 b1 n4 d1 (ints .i64 qA)) := T1_5.out.later hb6
  have T2_6 : Hid (Rw w7 b2 n4 d2 (strs nmA)) := T2_5.out.later hb6
  have T3_6 : Hid (Rw w7 b3 n4 d3 (strs arA)) := T3_5.out.later hb6
  have T4_6 : Hid (Rw w7 b4 n4 d4 (strs tA)) := T4_5.out.later hb6
  have T5_6 : Hid (Rw w7 b5 n9 d5 (bools mB)) := T5_5.out.later hb6
  clear k6 hb6 R6 T0_5 T1_5 T2_5 T3_5 T4_5 T5_5 E6
  go_wp2_with fail
  refine (cloneS_any a7 n9 c7 nmB _ (R7.out.later E7.out) (by omega)).mono ?_
  rintro e w8 ⟨b7, d7, rfl, k7, hb7⟩
  have E8 : Hid (Below w.heap.size w w8) := below_next E7.out hb7
  have T7_7 : Hid (Rw w8 b7 n9 d7 (strs nmB)) := k7
  have T0_7 : Hid (Rw w8 b0 n4 d0 (bools mA)) := T0_6.out.later hb7
  have T1_7 : Hid (Rw w8 b1 n4 d1 (ints .i64 qA)) := T1_6.out.later hb7
  have T2_7 : Hid (Rw w8 b2 n4 d2 (strs nmA)) := T2_6.out.later hb7
  have T3_7 : Hid (Rw w8 b3 n4 d3 (strs arA)) := T3_6.out.later hb7
  have T4_7 : Hid (Rw w8 b4 n4 d4 (strs tA)) := T4_6.out.later hb7
  have T5_7 : Hid (Rw w8 b5 n9 d5 (bools mB)) := T5_6.out.later hb7
  have T6_7 : Hid (Rw w8 b6 n9 d6 (ints .i64 qB)) := T6_6.out.later hb7
  clear k7 hb7 R7 T0_6 T1_6 T2_6 T3_6 T4_6 T5_6 T6_6 E7
  go_wp2_with fail
  refine (cloneS_any a8 n9 c8 arB _ (R8.out.later E8.out) (by omega)).mono ?_
  rintro e w9 ⟨b8, d8, rfl, k8, hb8⟩
  have E9 : Hid (Below w.heap.size w w9) := below_next E8.out hb8
  have T8_8 : Hid (Rw w9 b8 n9 d8 (strs arB)) := k8
  have T0_8 : Hid (Rw w9 b0 n4 d0 (bools mA)) := T0_7.out.later hb8
  have T1_8 : Hid (Rw w9 b1 n4 d1 (ints .i64 qA)) := T1_7.out.later hb8
  have T2_8 : Hid (Rw w9 b2 n4 d2 (strs nmA)) := T2_7.out.later hb8
  have T3_8 : Hid (Rw w9 b3 n4 d3 (strs arA)) := T3_7.out.later hb8
  have T4_8 : Hid (Rw w9 b4 n4 d4 (strs tA)) := T4_7.out.later hb8
  have T5_8 : Hid (Rw w9 b5 n9 d5 (bools mB)) := T5_7.out.later hb8
  have T6_8 : Hid (Rw w9 b6 n9 d6 (ints .i64 qB)) := T6_7.out.later hb8
  have T7_8 : Hid (Rw w9 b7 n9 d7 (strs nmB)) := T7_7.out.later hb8
  clear k8 hb8 R8 T0_7 T1_7 T2_7 T3_7 T4_7 T5_7 T6_7 T7_7 E8
  go_wp2_with fail
  refine (cloneS_any a9 n9 c9 tB _ (R9.out.later E9.out) (by omega)).mono ?_
  rintro e w10 ⟨b9, d9, rfl, k9, hb9⟩
  have E10 : Hid (Below w.heap.size w w10) := below_next E9.out hb9
  have T9_9 : Hid (Rw w10 b9 n9 d9 (strs tB)) := k9
  have T0_9 : Hid (Rw w10 b0 n4 d0 (bools mA)) := T0_8.out.later hb9
  have T1_9 : Hid (Rw w10 b1 n4 d1 (ints .i64 qA)) := T1_8.out.later hb9
  have T2_9 : Hid (Rw w10 b2 n4 d2 (strs nmA)) := T2_8.out.later hb9
  have T3_9 : Hid (Rw w10 b3 n4 d3 (strs arA)) := T3_8.out.later hb9
  have T4_9 : Hid (Rw w10 b4 n4 d4 (strs tA)) := T4_8.out.later hb9
  have T5_9 : Hid (Rw w10 b5 n9 d5 (bools mB)) := T5_8.out.later hb9
  have T6_9 : Hid (Rw w10 b6 n9 d6 (ints .i64 qB)) := T6_8.out.later hb9
  have T7_9 : Hid (Rw w10 b7 n9 d7 (strs nmB)) := T7_8.out.later hb9
  have T8_9 : Hid (Rw w10 b8 n9 d8 (strs arB)) := T8_8.out.later hb9
  clear k9 hb9 R9 T0_8 T1_8 T2_8 T3_8 T4_8 T5_8 T6_8 T7_8 T8_8 E9
  have hmB := mkB n4 n9 (by omega)
  have hmI := mkI n4 n9 (by omega)
  have hmS := mkS n4 n9 (by omega)
  go_wp2
  go_loopw [33] (fun s wr => ∃ k : Nat, k ≤ n4 ∧ s = .int .i64 k ∧ J5 w10 wr (n4 + n9) k (jn mA mB n4) (jn qA qB n4) (jn nmA nmB n4) (jn arA arB n4) (jn tA tB n4)) (fun s _ => n4 - (intOf s).toNat)
  case atStart => exact ⟨0, Nat.zero_le _, rfl, J5.start w10 (n4 + n9) (jn mA mB n4) (jn qA qB n4) (jn nmA nmB n4) (jn arA arB n4) (jn tA tB n4)⟩
  case round =>
    obtain ⟨k, hk, rfl, h5⟩ := hrel
    obtain ⟨wx, hwx⟩ : ∃ wx, wx = wr := ⟨_, rfl⟩
    subst hwx
    have H5 : Hid (J5 w10 wx (n4 + n9) k (jn mA mB n4) (jn qA qB n4) (jn nmA nmB n4) (jn arA arB n4) (jn tA tB n4)) := h5
    clear h5
    by_cases hlt : k < n4
    · have k1 : (k : Int) < (n4 : Int) := by omega
      have k2 : (k : Int) < (n4 : Int) + (n9 : Int) := by omega
      obtain ⟨p0, o0, rfl, l0, x0⟩ := T0_9.out.plain (by omega)
      have e0 : wx.cell? ⟨p0, o0 + k, none⟩ = some (.bool (jn mA mB n4 (k))) := by rw [jn_left _ _ hlt]; exact cell_later H5.out.bel (x0 k hlt)
      have f0 := H5.out.b0.free (k)
      have g0 := (H5.out.b0.cell (k)).trans (rowOf_get _ (by omega))
      clear x0
      obtain ⟨p1, o1, rfl, l1, x1⟩ := T1_9.out.plain (by omega)
      have e1 : wx.cell? ⟨p1, o1 + k, none⟩ = some (.int .i64 (jn qA qB n4 (k))) := by rw [jn_left _ _ hlt]; exact cell_later H5.out.bel (x1 k hlt)
      have f1 := H5.out.b1.free (k)
      have g1 := (H5.out.b1.cell (k)).trans (rowOf_get _ (by omega))
      clear x1
      obtain ⟨p2, o2, rfl, l2, x2⟩ := T2_9.out.plain (by omega)
      have e2 : wx.cell? ⟨p2, o2 + k, none⟩ = some (.string (jn nmA nmB n4 (k))) := by rw [jn_left _ _ hlt]; exact cell_later H5.out.bel (x2 k hlt)
      have f2 := H5.out.b2.free (k)
      have g2 := (H5.out.b2.cell (k)).trans (rowOf_get _ (by omega))
      clear x2
      obtain ⟨p3, o3, rfl, l3, x3⟩ := T3_9.out.plain (by omega)
      have e3 : wx.cell? ⟨p3, o3 + k, none⟩ = some (.string (jn arA arB n4 (k))) := by rw [jn_left _ _ hlt]; exact cell_later H5.out.bel (x3 k hlt)
      have f3 := H5.out.b3.free (k)
      have g3 := (H5.out.b3.cell (k)).trans (rowOf_get _ (by omega))
      clear x3
      obtain ⟨p4, o4, rfl, l4, x4⟩ := T4_9.out.plain (by omega)
      have e4 : wx.cell? ⟨p4, o4 + k, none⟩ = some (.string (jn tA tB n4 (k))) := by rw [jn_left _ _ hlt]; exact cell_later H5.out.bel (x4 k hlt)
      have f4 := H5.out.b4.free (k)
      have g4 := (H5.out.b4.cell (k)).trans (rowOf_get _ (by omega))
      clear x4
      go_wp2
      go_roundw
      case rel => exact ⟨k + 1, by omega, by go_num, H5.out.step⟩
      case measure => simp [intOf]; omega
    · obtain rfl : n4 = k := by omega
      have k1 : ¬ ((n4 : Int) < (n4 : Int)) := by omega
      go_wp2
      go_loopw [34] (fun s wr => ∃ j : Nat, j ≤ n9 ∧ s = .int .i64 j ∧ J5 w10 wr (n4 + n9) (n4 + j) (jn mA mB n4) (jn qA qB n4) (jn nmA nmB n4) (jn arA arB n4) (jn tA tB n4)) (fun s _ => n9 - (intOf s).toNat)
      case atStart => exact ⟨0, Nat.zero_le _, rfl, H5.out⟩
      case round =>
        obtain ⟨j, hj, rfl, h5⟩ := hrel
        clear H5
        clear k1
        obtain ⟨wx, hwx⟩ : ∃ wx, wx = wr := ⟨_, rfl⟩
        subst hwx
        have H5 : Hid (J5 w10 wx (n4 + n9) (n4 + j) (jn mA mB n4) (jn qA qB n4) (jn nmA nmB n4) (jn arA arB n4) (jn tA tB n4)) := h5
        clear h5
        by_cases hlt : j < n9
        · have k1 : (j : Int) < (n9 : Int) := by omega
          have k2 : (n4 : Int) + (j : Int) < (n4 : Int) + (n9 : Int) := by omega
          obtain ⟨p5, o5, rfl, l5, x5⟩ := T5_9.out.plain (by omega)
          have e5 : wx.cell? ⟨p5, o5 + j, none⟩ = some (.bool (jn mA mB n4 (n4 + j))) := by rw [jn_right]; exact cell_later H5.out.bel (x5 j hlt)
          have f5 := H5.out.b0.free (n4 + j)
          have g5 := (H5.out.b0.cell (n4 + j)).trans (rowOf_get _ (by omega))
          clear x5
          obtain ⟨p6, o6, rfl, l6, x6⟩ := T6_9.out.plain (by omega)
          have e6 : wx.cell? ⟨p6, o6 + j, none⟩ = some (.int .i64 (jn qA qB n4 (n4 + j))) := by rw [jn_right]; exact cell_later H5.out.bel (x6 j hlt)
          have f6 := H5.out.b1.free (n4 + j)
          have g6 := (H5.out.b1.cell (n4 + j)).trans (rowOf_get _ (by omega))
          clear x6
          obtain ⟨p7, o7, rfl, l7, x7⟩ := T7_9.out.plain (by omega)
          have e7 : wx.cell? ⟨p7, o7 + j, none⟩ = some (.string (jn nmA nmB n4 (n4 + j))) := by rw [jn_right]; exact cell_later H5.out.bel (x7 j hlt)
          have f7 := H5.out.b2.free (n4 + j)
          have g7 := (H5.out.b2.cell (n4 + j)).trans (rowOf_get _ (by omega))
          clear x7
          obtain ⟨p8, o8, rfl, l8, x8⟩ := T8_9.out.plain (by omega)
          have e8 : wx.cell? ⟨p8, o8 + j, none⟩ = some (.string (jn arA arB n4 (n4 + j))) := by rw [jn_right]; exact cell_later H5.out.bel (x8 j hlt)
          have f8 := H5.out.b3.free (n4 + j)
          have g8 := (H5.out.b3.cell (n4 + j)).trans (rowOf_get _ (by omega))
          clear x8
          obtain ⟨p9, o9, rfl, l9, x9⟩ := T9_9.out.plain (by omega)
          have e9 : wx.cell? ⟨p9, o9 + j, none⟩ = some (.string (jn tA tB n4 (n4 + j))) := by rw [jn_right]; exact cell_later H5.out.bel (x9 j hlt)
          have f9 := H5.out.b4.free (n4 + j)
          have g9 := (H5.out.b4.cell (n4 + j)).trans (rowOf_get _ (by omega))
          clear x9
          go_wp2
          go_roundw
          case rel => exact ⟨j + 1, by omega, by go_num, H5.out.step⟩
          case measure => simp [intOf]; omega
        · obtain rfl : n9 = j := by omega
          have k1 : ¬ ((n9 : Int) < (n9 : Int)) := by omega
          have QJ : Hid (∀ i, i < n4 + n9 → jn mA mB n4 i = true → 0 ≤ jn qA qB n4 i ∧ jn qA qB n4 i ≤ 3) := by
            intro i hi
            by_cases h : i < n4
            · rw [jn_left _ _ h, jn_left _ _ h]; exact QA.out i h
            · obtain ⟨y, rfl⟩ : ∃ y, i = n4 + y := ⟨i - n4, by omega⟩
              rw [jn_right, jn_right]; exact QB.out y (by omega)
          have SJ : Hid (∀ i, i < n4 + n9 → (jn tA tB n4 i).size ≤ 1048576) := by
            intro i hi
            by_cases h : i < n4
            · rw [jn_left _ _ h]; exact SA.out i h
            · obtain ⟨y, rfl⟩ : ∃ y, i = n4 + y := ⟨i - n4, by omega⟩
              rw [jn_right]; exact SB.out y (by omega)
          clear hmB hmI hmS
          have hN : n4 + n9 ≤ 2097152 := by omega
          go_wp2_with fail
          refine (zz_any (some ⟨w10.heap.size, 0, none⟩) (some ⟨w10.heap.size + 1, 0, none⟩) (some ⟨w10.heap.size + 2, 0, none⟩) (some ⟨w10.heap.size + 3, 0, none⟩) (some ⟨w10.heap.size + 4, 0, none⟩) (n4 + n9) (n4 + n9) (n4 + n9) (n4 + n9) (n4 + n9) (n4 + n9) (jn mA mB n4) (jn qA qB n4) (jn nmA nmB n4) (jn arA arB n4) (jn tA tB n4) all false _ (full H5.out.b0) (full H5.out.b1) (full H5.out.b2) (full H5.out.b3) (full H5.out.b4) QJ.out HALL.out SJ.out hN).mono ?_
          rintro e w11 ⟨u1, rfl, hu1, hb11⟩
          have E11 : Hid (Below w10.heap.size w10 w11) := below_next H5.out.bel hb11
          have U1 : Hid (u1.data.toList = recb (jn mA mB n4) (jn qA qB n4) (jn tA tB n4) (n4 + n9) all false) := hu1
          clear hu1 hb11 H5 QJ SJ hN
          go_wp2_with fail
          refine (zz_any b0 b1 b2 b3 b4 n4 d0 d1 d2 d3 d4 mA qA nmA arA tA 0 false _ (T0_9.out.later E11.out) (T1_9.out.later E11.out) (T2_9.out.later E11.out) (T3_9.out.later E11.out) (T4_9.out.later E11.out) QA.out (fun h => by cases h) SA.out (by omega)).mono ?_
          rintro e w12 ⟨u2, rfl, hu2, hb12⟩
          have E12 : Hid (Below w10.heap.size w10 w12) := below_next E11.out hb12
          have U2 : Hid (u2.data.toList = recb mA qA tA n4 0 false) := hu2
          clear hu2 hb12 E11 QA SA T0_9 T1_9 T2_9 T3_9 T4_9
          go_wp2_with fail
          refine (zz_any b5 b6 b7 b8 b9 n9 d5 d6 d7 d8 d9 mB qB nmB arB tB all false _ (T5_9.out.later E12.out) (T6_9.out.later E12.out) (T7_9.out.later E12.out) (T8_9.out.later E12.out) (T9_9.out.later E12.out) QB.out HALL.out SB.out (by omega)).mono ?_
          rintro e w13 ⟨u3, rfl, hu3, hb13⟩
          have E13 : Hid (Below w10.heap.size w10 w13) := below_next E12.out hb13
          have hlen : 6 ≤ u3.size := by
            rw [size_of hu3]
            exact recb_len mB qB tB n9 all false
          have hsz : ¬ 9223372036854775807 < u2.size + (u3.size - 6) := by
            rw [size_of hu3, size_of U2.out]
            have h1 := recb_le mB qB tB n9 all false SB.out
            have h2 := recb_le mA qA tA n4 0 false SAA.out
            omega
          have hEQ : u1 = u2 ++ u3.extract 6 u3.size := bytes_eq u1 u2 u3 (by rw [U1.out, U2.out, hu3]; exact rec_join _ _ _ _ _ _ _ _ _ _)
          have HEQ : Hid (u1 = u2 ++ u3.extract 6 u3.size) := hEQ
          clear hEQ hu3 hb13 E12 U1 U2 QB SB T5_9 T6_9 T7_9 T8_9 T9_9
          have k6 : ¬ ((u3.size : Int) < 6) := by omega
          have k7 : (6 : Int) ≤ (u3.size : Int) := by omega
          have k8 : ((6 : Int) ≤ (u3.size : Int) ∧ (u3.size : Int) ≤ (u3.size : Int)) := by omega
          go_wp2
          go_ret
          refine ⟨?_, below_next E10.out E13.out⟩
          rw [← HEQ.out, beq_self_eq_true]
          rfl
end Go.Proofs.Qxb6602967a

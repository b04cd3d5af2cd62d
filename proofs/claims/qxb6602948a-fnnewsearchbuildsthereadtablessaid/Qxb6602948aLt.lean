import Derived.Test.Qxb6602948aZc
import Derived.Test.Qxb6602948aLawBase
import Derived.Test.Qxb6602948aPa
import Derived.Lib.Builder
import Derived.BigQuiet
import Derived.Test.Qxb6602948aLe
namespace Go.Proofs.Qxb6602948a
open Go.RowKit Go.Kx Go.Uf Go.Maps
set_option linter.unusedVariables false

def NoIdx2 (p : Nat → Int × Int) (r : Nat) : Prop := ¬ ∃ j, j < r ∧ p j = p r
/-- what ZZNewSearch does -/
def ZnSaid : Prop := ∀ (H : Nat) (a0 : Option Addr) (n c0 items : Nat) (imp : Bool) (a3 : Option Addr) (c3 : Nat) (Bq M : Nat) (a6 : Option Addr) (c6 : Nat) (a7 : Option Addr) (N c7 : Nat) (rS rI rw wS wI : Nat → Int) (w : World), Hb w H a0 n c0 items imp a3 c3 Bq M a6 c6 a7 N c7 rS rI rw wS wI → Fine n items M N rS rI wS wI → N ≤ c7 ∧ c7 ≤ 1048576 → (∀ j, wfp (rI j, rw j)) →
    Calls Try.prog 24 #[.pointer (some ⟨H, 0, none⟩)] w fun e w' => NsPost H n items rS rI rw wS wI w e w'

set_option maxRecDepth 100000 in
set_option maxHeartbeats 40000000 in
theorem tablesLaw (zznew : ZnSaid) (T : Int) (imp : Bool) (a0 a3 a4 a5 a6 a7 : Option Addr) (n0 n3 n4 n5 n6 n7 c0 c3 c4 c5 c6 c7 : Nat) (z0 rS rI rw wS wI : Nat → Int) (w : World)
    (r0 : Rw w a0 n0 c0 (ints .u64 z0)) (r3 : Rw w a3 n3 c3 (ints .i64 rS)) (r4 : Rw w a4 n4 c4 (ints .i32 rI)) (r5 : Rw w a5 n5 c5 (ints .i32 rw)) (r6 : Rw w a6 n6 c6 (ints .i64 wS)) (r7 : Rw w a7 n7 c7 (ints .i32 wI))
    (b4 : ∀ j, -2147483648 ≤ rI j ∧ rI j ≤ 2147483647) (b5 : ∀ j, -2147483648 ≤ rw j ∧ rw j ≤ 2147483647) (b7 : ∀ j, -2147483648 ≤ wI j ∧ wI j ≤ 2147483647) :
    Calls Try.prog 6 #[.slice a0 n0 c0, .int .i64 T, .bool imp, .slice a3 n3 c3, .slice a4 n4 c4, .slice a5 n5 c5, .slice a6 n6 c6, .slice a7 n7 c7] w fun e w' => e = .returned (.bool true) ∧ Below w.heap.size w w' := by
  have R0 : Hid (Rw w a0 n0 c0 (ints .u64 z0)) := r0
  have R3 : Hid (Rw w a3 n3 c3 (ints .i64 rS)) := r3
  have R4 : Hid (Rw w a4 n4 c4 (ints .i32 rI)) := r4
  have R5 : Hid (Rw w a5 n5 c5 (ints .i32 rw)) := r5
  have R6 : Hid (Rw w a6 n6 c6 (ints .i64 wS)) := r6
  have R7 : Hid (Rw w a7 n7 c7 (ints .i32 wI)) := r7
  have B4 : Hid (∀ j, -2147483648 ≤ rI j ∧ rI j ≤ 2147483647) := b4
  have B5 : Hid (∀ j, -2147483648 ≤ rw j ∧ rw j ≤ 2147483647) := b5
  have B7 : Hid (∀ j, -2147483648 ≤ wI j ∧ wI j ≤ 2147483647) := b7
  have ZZ : Hid ZnSaid := zznew
  clear r0 r3 r4 r5 r6 r7 b4 b5 b7 zznew
  go_enter Try.func6, Try.ntmps6
  go_wp2_with fail
  refine (bytes23 _ _ _ _ _ _ _ _ _ _ _ _ _ _ _ _ _ _ _ _ _).mono ?_
  rintro e w' ⟨b, rfl, rfl⟩
  cases b with
  | false =>
    go_wp2
    go_ret
    exact ⟨rfl, Below.refl _ _⟩
  | true =>
  by_cases ln0 : n0 ≤ 4096
  rotate_left
  · have d : decide ((4096 : Int) < (n0 : Int)) = true := decide_eq_true (by omega)
    go_wp2
    go_ret
    exact ⟨rfl, Below.refl _ _⟩
  have dn0 : decide ((4096 : Int) < (n0 : Int)) = false := decide_eq_false (by omega)
  by_cases ln3 : n3 ≤ 4097
  rotate_left
  · have d : decide ((4097 : Int) < (n3 : Int)) = true := decide_eq_true (by omega)
    go_wp2
    go_ret
    exact ⟨rfl, Below.refl _ _⟩
  have dn3 : decide ((4097 : Int) < (n3 : Int)) = false := decide_eq_false (by omega)
  by_cases ln4 : n4 ≤ 4096
  rotate_left
  · have d : decide ((4096 : Int) < (n4 : Int)) = true := decide_eq_true (by omega)
    go_wp2
    go_ret
    exact ⟨rfl, Below.refl _ _⟩
  have dn4 : decide ((4096 : Int) < (n4 : Int)) = false := decide_eq_false (by omega)
  by_cases ln5 : n5 ≤ 4096
  rotate_left
  · have d : decide ((4096 : Int) < (n5 : Int)) = true := decide_eq_true (by omega)
    go_wp2
    go_ret
    exact ⟨rfl, Below.refl _ _⟩
  have dn5 : decide ((4096 : Int) < (n5 : Int)) = false := decide_eq_false (by omega)
  by_cases ln6 : n6 ≤ 4097
  rotate_left
  · have d : decide ((4097 : Int) < (n6 : Int)) = true := decide_eq_true (by omega)
    go_wp2
    go_ret
    exact ⟨rfl, Below.refl _ _⟩
  have dn6 : decide ((4097 : Int) < (n6 : Int)) = false := decide_eq_false (by omega)
  by_cases ln7 : n7 ≤ 4096
  rotate_left
  · have d : decide ((4096 : Int) < (n7 : Int)) = true := decide_eq_true (by omega)
    go_wp2
    go_ret
    exact ⟨rfl, Below.refl _ _⟩
  have dn7 : decide ((4096 : Int) < (n7 : Int)) = false := decide_eq_false (by omega)
  by_cases lT : 0 ≤ T
  rotate_left
  · have d : decide (T < 0) = true := decide_eq_true (by omega)
    go_wp2
    go_ret
    exact ⟨rfl, Below.refl _ _⟩
  have dT : decide (T < 0) = false := decide_eq_false (by omega)
  by_cases lT2 : T ≤ 65536
  rotate_left
  · have d : decide ((65536 : Int) < T) = true := decide_eq_true (by omega)
    go_wp2
    go_ret
    exact ⟨rfl, Below.refl _ _⟩
  have dT2 : decide ((65536 : Int) < T) = false := decide_eq_false (by omega)
  obtain ⟨items, rfl⟩ := Int.eq_ofNat_of_zero_le lT
  have lit : items ≤ 65536 := by omega
  clear lT lT2
  go_wp2_with fail
  refine (histOK_any n0 items a3 n3 c3 rS a4 n4 c4 rI a5 n5 c5 a6 n6 c6 wS a7 n7 c7 wI _ R3.out R4.out R6.out R7.out B4.out B7.out (by omega) (by omega) (by omega) (by omega) (by omega) (by omega) (by omega)).mono ?_
  rintro e w1 ⟨b, rfl, hok, hb1⟩
  cases b with
  | false =>
    clear hok
    go_wp2
    go_ret
    exact ⟨rfl, hb1⟩
  | true =>
  have OK : Hid (HOk n0 items n4 n5 n7 n3 n6 rS rI wS wI) := hok rfl
  clear hok
  obtain rfl : n4 = n5 := OK.out.len.symm
  obtain rfl : n0 + 1 = n3 := OK.out.rs.len.symm
  obtain rfl : n0 + 1 = n6 := OK.out.ws.len.symm
  have f32 : ∀ (z : Nat → Int) (j : Nat), (ints .i32 z j).oneCell' = true := fun _ _ => rfl
  have f64 : ∀ (z : Nat → Int) (j : Nat), (ints .i64 z j).oneCell' = true := fun _ _ => rfl
  have fu64 : ∀ (z : Nat → Int) (j : Nat), (ints .u64 z j).oneCell' = true := fun _ _ => rfl
  have E1 : Hid (Below w.heap.size w w1) := hb1
  clear hb1
  go_wp2_with fail
  refine (cloneU64_any a0 n0 c0 _ _ (R0.out.later E1.out) (fu64 z0) (by omega)).mono ?_
  rintro e w2 ⟨a0', c0', rfl, K0⟩
  have E2 : Hid (Below w.heap.size w w2) := below_next E1.out K0.1
  clear K0 E1 R0
  go_wp2_with fail
  refine (cloneInts_any a3 (n0 + 1) c3 _ _ (R3.out.later E2.out) (f64 rS) (by omega)).mono ?_
  rintro e w3 ⟨a3', c3', rfl, K3⟩
  have E3 : Hid (Below w.heap.size w w3) := below_next E2.out K3.1
  have r3' := K3.rw
  clear K3 E2
  go_wp2_with fail
  refine (cloneI32_any a4 n4 c4 _ _ (R4.out.later E3.out) (f32 rI) (by omega)).mono ?_
  rintro e w4 ⟨a4', c4', rfl, K4⟩
  have E4 : Hid (Below w.heap.size w w4) := below_next E3.out K4.1
  have r4' := K4.rw
  have r34 := r3'.later K4.1
  clear K4 E3 r3'
  go_wp2_with fail
  refine (cloneI32_any a5 n4 c5 _ _ (R5.out.later E4.out) (f32 rw) (by omega)).mono ?_
  rintro e w5 ⟨a5', c5', rfl, K5⟩
  have E5 : Hid (Below w.heap.size w w5) := below_next E4.out K5.1
  have r5' := K5.rw
  have r35 := r34.later K5.1
  have r45 := r4'.later K5.1
  clear K5 E4 R5 r34 r4'
  go_wp2_with fail
  refine (cloneInts_any a6 (n0 + 1) c6 _ _ (R6.out.later E5.out) (f64 wS) (by omega)).mono ?_
  rintro e w6 ⟨a6', c6', rfl, K6⟩
  have E6 : Hid (Below w.heap.size w w6) := below_next E5.out K6.1
  have r6' := K6.rw
  have r36 := r35.later K6.1
  have r46 := r45.later K6.1
  have r56 := r5'.later K6.1
  clear K6 E5 r35 r45 r5'
  go_wp2_with fail
  refine (cloneI32_any a7 n7 c7 _ _ (R7.out.later E6.out) (f32 wI) (by omega)).mono ?_
  rintro e w7 ⟨a7', c7', rfl, K7⟩
  have E7 : Hid (Below w.heap.size w w7) := below_next E6.out K7.1
  have r7' := K7.rw
  obtain rfl := K7.cap.symm
  have r37 := r36.later K7.1
  have r47 := r46.later K7.1
  have r57 := r56.later K7.1
  have r67 := r6'.later K7.1
  clear K7 E6 r36 r46 r56 r6'
  have T3 : Hid (Rw w7 a3' (n0 + 1) c3' (ints .i64 rS)) := r37
  have T4 : Hid (Rw w7 a4' n4 c4' (ints .i32 rI)) := r47
  have T5 : Hid (Rw w7 a5' n4 c5' (ints .i32 rw)) := r57
  have T6 : Hid (Rw w7 a6' (n0 + 1) c6' (ints .i64 wS)) := r67
  have T7 : Hid (Rw w7 a7' n7 n7 (ints .i32 wI)) := r7'
  clear r37 r47 r57 r67 r7'
  go_wp2_with fail
  refine (hist_any a0' n0 c0' items imp a3' (n0 + 1) c3' a4' n4 c4' a5' c5' a6' (n0 + 1) c6' a7' n7 n7 rI rw _ T4.out T5.out (by omega)).mono ?_
  rintro e w8 ⟨H, rfl, hH, hHlt, hBq, hb8⟩
  have E8 : Hid (Below w.heap.size w w8) := below_next E7.out hb8
  have HB : Hid (Hb w8 H a0' n0 c0' items imp a3' c3' w7.heap.size n4 a6' c6' a7' n7 n7 rS rI rw wS wI) := ⟨hH, T3.out.later hb8, Rw2.of_blk hBq (Nat.le_refl _), T6.out.later hb8, T7.out.later hb8⟩
  have FI : Hid (Fine n0 items n4 n7 rS rI wS wI) := ⟨by omega, by omega, by omega, by omega, OK.out.rs, OK.out.ws, OK.out.ri, OK.out.wi⟩
  have F8 : Hid (Below w7.heap.size w7 w8) := hb8
  clear hH hHlt hBq hb8 E7
  have WFP : Hid (∀ j, wfp (rI j, rw j)) := fun j => ⟨wf_i32' (B4.out j).1 (B4.out j).2, wf_i32' (B5.out j).1 (B5.out j).2⟩
  go_wp2_with fail
  refine (ZZ.out H a0' n0 c0' items imp a3' c3' w7.heap.size n4 a6' c6' a7' n7 n7 rS rI rw wS wI w8 HB.out FI.out ⟨Nat.le_refl _, by omega⟩ WFP.out).mono ?_
  rintro e w9 hN
  obtain ⟨S, bp, bs, bt, bf, bq, bd, rn, vn, us, ar, cr, an, cn, ap, cp, aw, cw, rfl, hS, hb9, hrn, hvn, hlx⟩ := lx_of hN FI.out
  clear hN ZZ
  have HS : Hid (Blk w9 S #[.pointer (some ⟨H, 0, none⟩), sl bp n0, sl bs n0, sl bt n0, sl bf (n0 + 1), .slice ar rn cr, .slice an (rn + vn) cn, .slice ap (rn + vn) cp, sl bq items, .slice aw vn cw, sl bd n0] 67) := hS
  have E9 : Hid (Below w.heap.size w w9) := below_next E8.out hb9
  have F9 : Hid (Below w7.heap.size w7 w9) := below_next F8.out hb9
  have LX : Hid (Lx w9 n0 items rn vn bp bs bt bf bq bd us ar cr an cn ap cp aw cw rS rw wS wI (pp rS rI rw)) := hlx
  have RN : Hid (rS n0 = rS 0 + (rn : Int)) := hrn
  have VN : Hid (vn = (fo (pp rS rI rw) rn).length) := hvn
  clear hS hb9 hrn hvn hlx
  go_wp2_with fail
  refine (parts_any S (.pointer (some ⟨H, 0, none⟩)) (.slice (some ⟨bp, 0, none⟩) n0 n0) (.slice (some ⟨bs, 0, none⟩) n0 n0) (.slice (some ⟨bt, 0, none⟩) n0 n0) (.slice (some ⟨bf, 0, none⟩) (n0 + 1) (n0 + 1)) (.slice ar rn cr) (.slice an (rn + vn) cn) (.slice ap (rn + vn) cp) (.slice (some ⟨bq, 0, none⟩) items items) (.slice aw vn cw) (.slice (some ⟨bd, 0, none⟩) n0 n0) w9 HS.out).mono ?_
  rintro e w10 ⟨rfl, m10, hm10⟩
  have hb10 : Below w9.heap.size w9 w10 := by rw [hm10]; exact below_drewN (Below.refl _ _) m10
  obtain ⟨p, hp⟩ : ∃ p, p = pp rS rI rw := ⟨_, rfl⟩
  obtain ⟨Q, hQd⟩ : ∃ Q : World → Prop, Q = fun W => Lw w W n4 n7 a3' c3' a4' c4' a5' c5' a6' c6' a7' n0 items rn vn bp bs bt bf bq bd us ar cr an cn ap cp aw cw rS rI rw wS wI p := ⟨_, rfl⟩
  have QX : Hid (∀ W, Q W → Lw w W n4 n7 a3' c3' a4' c4' a5' c5' a6' c6' a7' n0 items rn vn bp bs bt bf bq bd us ar cr an cn ap cp aw cw rS rI rw wS wI p) := by
    show ∀ W, Q W → _
    rw [hQd]; exact fun W h => h
  have QL : Hid (∀ W W', Q W → Below W.heap.size W W' → Q W') := by
    show ∀ W W', Q W → Below W.heap.size W W' → Q W'
    rw [hQd]; exact fun W W' h hb => h.later hb
  have Q10 : Hid (Q w10) := by
    show Q w10
    rw [hQd, hp]; exact ⟨below_next E9.out hb10, LX.out.later hb10, (T3.out.later F9.out).later hb10, (T4.out.later F9.out).later hb10, (T5.out.later F9.out).later hb10, (T6.out.later F9.out).later hb10, (T7.out.later F9.out).later hb10⟩
  rw [← hp] at VN
  have PE : Hid (p = pp rS rI rw) := hp
  obtain ⟨q0, hq0⟩ : ∃ q0 : Nat, rS 0 = (q0 : Int) := ⟨(rS 0).toNat, by have := FI.out.rs.zero; omega⟩
  have Q0 : Hid (rS 0 = (q0 : Int)) := hq0
  have PA : Hid (∀ j, p j = (rI (q0 + j), rw (q0 + j))) := fun j => by rw [hp]; unfold pp; rw [hq0]; rfl
  have lrn : q0 + rn ≤ n4 := by have h1 := FI.out.rs.last; have h2 := RN.out; omega
  have lvn : vn ≤ rn := by rw [VN.out]; exact fo_len _ _
  obtain ⟨j63, hj63⟩ : ∃ j, Try.prog.info? 63 = some j := by
    cases h : Try.prog.info? 63 with
    | some j => exact ⟨j, rfl⟩
    | none => have h2 : (Try.prog.info? 63).isSome = true := by kernel_rfl
              rw [h] at h2; cases h2
  have hpe := Go.Lib.run_neq_ptr_same (P := Try.prog) w10 ⟨H, 0, none⟩ Try.underlying39 hj63
  clear hp hq0 hQd hm10 hb10 HB E8 E9 F8 F9 LX HS T3 T4 T5 T6 T7 WFP OK
  go_wp2
  go_loop [31] (fun s => ∃ t : Nat, t ≤ n0 ∧ s = .int .i64 t) (fun s => n0 - (intOf s).toNat)
  case atStart => exact ⟨0, Nat.zero_le _, rfl⟩
  case round =>
  obtain ⟨t1, ht, rfl⟩ := hrel
  by_cases hlt : t1 < n0
  ·
    as_aux_lemma =>
      have kt : (t1 : Int) < (n0 : Int) := by omega
      have e1 : w10.cell? ⟨bp, t1, none⟩ = some (.bool false) := rw_cell (QX.out _ Q10.out).lx.pl hlt
      have e2 : w10.cell? ⟨bd, t1, none⟩ = some (.int .i64 0) := rw_cell (QX.out _ Q10.out).lx.de hlt
      go_wp2
      go_round
      case rel => exact ⟨t1 + 1, by omega, by go_num⟩
      case measure => simp [intOf]; omega
  have kt : ¬ ((t1 : Int) < (n0 : Int)) := by omega
  go_wp2
  clear kt ht hlt
  go_loop [32] (fun s => ∃ t : Nat, t ≤ items ∧ s = .int .i64 t) (fun s => items - (intOf s).toNat)
  case atStart => exact ⟨0, Nat.zero_le _, rfl⟩
  case round =>
  obtain ⟨x2, ht, rfl⟩ := hrel
  by_cases hlt : x2 < items
  ·
    as_aux_lemma =>
      have kt : (x2 : Int) < (items : Int) := by omega
      have e1 : w10.cell? ⟨bq, x2, none⟩ = some (.slice none 0 0) := rw_cell (QX.out _ Q10.out).lx.pw hlt
      go_wp2
      go_round
      case rel => exact ⟨x2 + 1, by omega, by go_num⟩
      case measure => simp [intOf]; omega
  have kt : ¬ ((x2 : Int) < (items : Int)) := by omega
  obtain ⟨b3, o3, rfl, l3, d3⟩ := (QX.out _ Q10.out).r3.plain (by omega)
  obtain ⟨b6, o6, rfl, l6, d6⟩ := (QX.out _ Q10.out).r6.plain (by omega)
  obtain ⟨E, hE⟩ : ∃ E, E = rS n0 := ⟨_, rfl⟩
  have e0 : w10.cell? ⟨b3, o3, none⟩ = some (.int .i64 (q0 : Int)) := by
    have h := d3 0 (by omega)
    rw [Nat.add_zero] at h
    rw [h]
    show some (Value.int .i64 (rS 0)) = _
    rw [Q0.out]
  have e1 : w10.cell? ⟨b3, o3 + n0, none⟩ = some (.int .i64 E) := by rw [d3 n0 (by omega), hE]
  have hsub : IntKind.i64.wrap (E - (q0 : Int)) = (rn : Int) := by rw [IntKind.wrap_i64, hE, RN.out, Q0.out]; omega
  have k1 : (n0 : Int) < (n0 : Int) + 1 := by omega
  have k0 : (0 : Int) < (n0 : Int) + 1 := by omega
  clear hE d3 d6 l3 l6 ht hlt
  go_wp2
  clear kt k0 k1 hsub e0 e1
  go_loopw [35] (fun s wr => ∃ t : Nat, t ≤ n0 + 1 ∧ s = .int .i64 t ∧ Q wr) (fun s _ => n0 + 1 - (intOf s).toNat)
  case atStart => exact ⟨0, Nat.zero_le _, rfl, Q10.out⟩
  case round =>
  clear Q10
  obtain ⟨t3, ht, rfl, hq⟩ := hrel
  obtain ⟨w11, hw11⟩ : ∃ w11, w11 = wr := ⟨_, rfl⟩
  subst hw11
  have Q11 : Hid (Q w11) := hq
  clear hq
  by_cases hlt : t3 ≤ n0
  ·
    as_aux_lemma =>
      have kt : (t3 : Int) ≤ (n0 : Int) := by omega
      have kt1 : (t3 : Int) < (n0 : Int) + 1 := by omega
      obtain ⟨E2, hE2⟩ : ∃ E2, E2 = rS t3 := ⟨_, rfl⟩
      obtain ⟨D2, hD2⟩ : ∃ D2, D2 = rS t3 - rS 0 := ⟨_, rfl⟩
      have e1 : w11.cell? ⟨b3, o3 + t3, none⟩ = some (.int .i64 E2) := by rw [rw_at (QX.out _ Q11.out).r3 (show t3 < n0 + 1 by omega), hE2]
      have e2 : w11.cell? ⟨bf, t3, none⟩ = some (.int .i64 D2) := by rw [rw_cell (QX.out _ Q11.out).lx.fr (show t3 < n0 + 1 by omega), hD2]
      have hsub : IntKind.i64.wrap (E2 - (q0 : Int)) = D2 := by
        have h1 := FI.out.rs.le (i := 0) (j := t3) (by omega) hlt
        have h2 := FI.out.rs.le (i := t3) (j := n0) hlt (Nat.le_refl _)
        have h3 := RN.out
        have h4 := Q0.out
        rw [IntKind.wrap_i64, hE2, hD2]
        omega
      clear hE2 hD2
      go_wp2
      go_quiet (fail)
      go_wp2
      go_roundw
      case rel => exact ⟨t3 + 1, by omega, by go_num, QL.out _ _ Q11.out (below_drewN (Below.refl _ _) _)⟩
      case measure => simp [intOf]; omega
  have kt : ¬ ((t3 : Int) ≤ (n0 : Int)) := by omega
  go_wp2
  clear kt ht hlt
  go_loop [36] (fun s => ∃ t : Nat, t ≤ n0 ∧ s = .int .i64 t) (fun s => n0 - (intOf s).toNat)
  case atStart => exact ⟨0, Nat.zero_le _, rfl⟩
  case round =>
  obtain ⟨t4, ht, rfl⟩ := hrel
  by_cases hlt : t4 < n0
  ·
    as_aux_lemma =>
      have kt : (t4 : Int) < (n0 : Int) := by omega
      have kt1 : (t4 : Int) < (n0 : Int) + 1 := by omega
      have kt2 : (t4 : Int) + 1 < (n0 : Int) + 1 := by omega
      obtain ⟨rlo, nr, re1, re2, re3⟩ := FI.out.rs.at' hlt
      obtain ⟨hi, hhi⟩ : ∃ hi, hi = rlo + nr := ⟨_, rfl⟩
      have h1 := FI.out.rs.le (i := 0) (j := t4) (by omega) (by omega)
      have h2 := FI.out.rs.le (i := t4 + 1) (j := n0) (by omega) (Nat.le_refl _)
      have h3 := RN.out
      have h4 := Q0.out
      have hlo : q0 ≤ rlo := by omega
      have hle : rlo ≤ hi := by omega
      have hup : hi ≤ q0 + rn := by omega
      have e1 : w11.cell? ⟨b3, o3 + t4, none⟩ = some (.int .i64 (rlo : Int)) := by rw [rw_at (QX.out _ Q11.out).r3 (show t4 < n0 + 1 by omega)]; show some (Value.int .i64 (rS t4)) = _; rw [re1]
      have e2 : w11.cell? ⟨b3, o3 + (t4 + 1), none⟩ = some (.int .i64 (hi : Int)) := by rw [rw_at (QX.out _ Q11.out).r3 (show t4 + 1 < n0 + 1 by omega)]; show some (Value.int .i64 (rS (t4 + 1))) = _; rw [re2, hhi]
      have RE : Hid (rS t4 = (rlo : Int) ∧ rS (t4 + 1) = (hi : Int)) := ⟨re1, by rw [re2, hhi]⟩
      clear h1 h2 h3 h4 re1 re2 re3 hhi
      go_wp2
      go_loop [37] (fun s => ∃ q : Nat, rlo ≤ q ∧ q ≤ hi ∧ s = .int .i64 q) (fun s => hi - (intOf s).toNat)
      case atStart => exact ⟨rlo, Nat.le_refl _, hle, rfl⟩
      case round =>
      obtain ⟨q, hq1, hq2, rfl⟩ := hrel
      by_cases hlq : q < hi
      · have kq : (q : Int) < (hi : Int) := by omega
        obtain ⟨j, hj⟩ : ∃ j, q = q0 + j := ⟨q - q0, by omega⟩
        have hsub : IntKind.i64.wrap ((q : Int) - (q0 : Int)) = (j : Int) := by rw [IntKind.wrap_i64]; omega
        have kj : (j : Int) < (rn : Int) := by omega
        obtain ⟨br, or', rfl, lbr, dr⟩ := (QX.out _ Q11.out).lx.rd.plain (by omega)
        have e3 : w11.cell? ⟨br, or' + j, none⟩ = some (.int .i64 (t4 : Int)) := by
          rw [dr j (by omega)]
          show some (Value.int .i64 ((rdl rS n0).getD j 0)) = _
          rw [rdl_at FI.out n0 (Nat.le_refl _) t4 hlt j (by rw [RE.out.1, Q0.out]; omega) (by rw [RE.out.2, Q0.out]; omega)]
        clear dr hj
        go_wp2
        go_round
        case rel => exact ⟨q + 1, by omega, by omega, by go_num⟩
        case measure => simp [intOf]; omega
      · have kq : ¬ ((q : Int) < (hi : Int)) := by omega
        go_wp2
        go_round
        case rel => exact ⟨t4 + 1, by omega, by go_num⟩
        case measure => simp [intOf]; omega
  have kt : ¬ ((t4 : Int) < (n0 : Int)) := by omega
  have hmk := mk22n rn (by omega) w11
  go_wp2
  clear kt ht hlt hmk
  obtain ⟨i3, hi3, hx0, hx1, hx2⟩ := info_parts info3
  obtain ⟨Bi, hBi⟩ : ∃ Bi, Bi = w11.heap.size := ⟨_, rfl⟩
  have ES : Hid (Ei p rn Bi w11 0 (.slice none 0 0) (w11.alloc (.cells (rowOf (fun _ => .int .i64 0) rn) 3))) := by
    show Ei _ _ _ _ _ _ _
    rw [hBi]; exact Ei.start p rn w11
  rw [← hBi]
  clear hBi
  go_loopw [39, 40] (fun v s wr => ∃ r : Nat, r ≤ rn ∧ s = .int .i64 r ∧ Ei p rn Bi w11 r v wr) (fun _ s _ => rn - (intOf s).toNat)
  case atStart => exact ⟨0, Nat.zero_le _, rfl, ES.out⟩
  case round =>
  clear ES
  rename_i vf _ _
  obtain ⟨r, hr, rfl, hei⟩ := hrel
  obtain ⟨w12, hw12⟩ : ∃ w12, w12 = wr := ⟨_, rfl⟩
  subst hw12
  obtain ⟨af, cf, hvf⟩ := ownsRow_shape hei.f
  subst hvf
  obtain ⟨lf, hlf⟩ : ∃ lf, lf = (fo p r).length := ⟨_, rfl⟩
  have hlf2 : lf ≤ r := by rw [hlf]; exact fo_len _ _
  rw [← hlf] at hei ⊢
  have HLF : Hid (lf = (fo p r).length) := hlf
  have EI : Hid (Ei p rn Bi w11 r (.slice af lf cf) w12) := hei
  clear hei hlf
  by_cases hlt : r < rn
  ·
    as_aux_lemma =>
      have kr : (r : Int) < (rn : Int) := by omega
      obtain ⟨b4, o4, rfl, l4, d4⟩ := (QX.out _ Q11.out).r4.plain (by omega)
      obtain ⟨b5, o5, rfl, l5, d5⟩ := (QX.out _ Q11.out).r5.plain (by omega)
      obtain ⟨qr, hqr⟩ : ∃ qr, qr = q0 + r := ⟨_, rfl⟩
      obtain ⟨xr, hxr⟩ : ∃ xr, xr = rI qr := ⟨_, rfl⟩
      obtain ⟨yr, hyr⟩ : ∃ yr, yr = rw qr := ⟨_, rfl⟩
      have PR : Hid (p r = (xr, yr)) := by show _ = _; rw [PA.out, hxr, hyr, hqr]
      have hqr2 : (q0 : Int) + (r : Int) = (qr : Int) := by omega
      have kqr : (qr : Int) < (n4 : Int) := by omega
      have lqr : qr < n4 := by omega
      have HX : Hid (xr = rI qr ∧ yr = rw qr) := ⟨hxr, hyr⟩
      clear d4 d5 l4 l5 hqr hxr hyr
      go_wp2
      go_loopw [41, 42] (fun f s wr => ∃ j : Nat, j ≤ r ∧ f = .int .i64 r ∧ s = .int .i64 j ∧ (∀ i, i < j → p i ≠ p r) ∧ Ei p rn Bi w11 r (.slice af lf cf) wr) (fun _ s _ => r - (intOf s).toNat)
      case atStart => exact ⟨0, Nat.zero_le _, rfl, rfl, fun i hi => by omega, EI.out⟩
      case round =>
      clear EI
      obtain ⟨j, hj, rfl, rfl, hno, hei⟩ := hrel
      obtain ⟨w13, hw13⟩ : ∃ w13, w13 = wr := ⟨_, rfl⟩
      subst hw13
      have EI : Hid (Ei p rn Bi w11 r (.slice af lf cf) w13) := hei
      have HNO : Hid (∀ i, i < j → p i ≠ p r) := hno
      clear hei hno
      by_cases hlj : j < r
      · have kj : (j : Int) < (r : Int) := by omega
        obtain ⟨qj, hqj⟩ : ∃ qj, qj = q0 + j := ⟨_, rfl⟩
        obtain ⟨xj, hxj⟩ : ∃ xj, xj = rI qj := ⟨_, rfl⟩
        obtain ⟨yj, hyj⟩ : ∃ yj, yj = rw qj := ⟨_, rfl⟩
        have PJ : Hid (p j = (xj, yj)) := by show _ = _; rw [PA.out, hxj, hyj, hqj]
        have hqj2 : (q0 : Int) + (j : Int) = (qj : Int) := by omega
        have kqj : (qj : Int) < (n4 : Int) := by omega
        have Q13 := QL.out _ _ Q11.out EI.out.bel
        have e1 : w13.cell? ⟨b4, o4 + qj, none⟩ = some (.int .i32 xj) := by rw [rw_at (QX.out _ Q13).r4 (show qj < n4 by omega), hxj]
        have e2 : w13.cell? ⟨b4, o4 + qr, none⟩ = some (.int .i32 xr) := by rw [rw_at (QX.out _ Q13).r4 lqr, HX.out.1]
        have e3 : w13.cell? ⟨b5, o5 + qj, none⟩ = some (.int .i32 yj) := by rw [rw_at (QX.out _ Q13).r5 (show qj < n4 by omega), hyj]
        have e4 : w13.cell? ⟨b5, o5 + qr, none⟩ = some (.int .i32 yr) := by rw [rw_at (QX.out _ Q13).r5 lqr, HX.out.2]
        clear Q13 hxj hyj hqj
        by_cases hx : xj = xr
        · by_cases hy : yj = yr
          ·
            as_aux_lemma =>
              have HF : Hid (j < r ∧ p j = p r) := ⟨hlj, by rw [PJ.out, PR.out, hx, hy]⟩
              have dx : decide (xj = xr) = true := decide_eq_true hx
              have dy : decide (yj = yr) = true := decide_eq_true hy
              have kne : ¬ ((j : Int) = (r : Int)) := by omega
              obtain ⟨iv, hiv⟩ : ∃ iv, iv = idv p r := ⟨_, rfl⟩
              have e5 : ∀ m, (w13.drewN m).cell? ⟨Bi, j, none⟩ = some (.int .i64 ((iv : Nat) : Int)) := fun m => by
                rw [(EI.out.drewN m).bi.cell j, rowOf_get _ (by omega)]
                show some (Value.int .i64 (idr p r j)) = _
                unfold idr
                rw [if_pos hlj, hiv, idv_same p HF.out.2]
              have e6 : ∀ m, (w13.drewN m).frozen? ⟨Bi, r, none⟩ = false := fun m => (EI.out.drewN m).bi.free r
              have e7 : ∀ m, (w13.drewN m).cell? ⟨Bi, r, none⟩ = some (.int .i64 (idr p r r)) := fun m => by rw [(EI.out.drewN m).bi.cell r, rowOf_get _ (by omega)]
              have kj2 : (j : Int) < (rn : Int) := by omega
              have EN : Hid (∀ m, Ei p rn Bi w11 (r + 1) (.slice af lf cf) ((w13.drewN m).setCell ⟨Bi, r, none⟩ (.int .i64 ((iv : Nat) : Int)))) := fun m => by rw [hiv]; exact (EI.out.drewN m).old ⟨j, HF.out⟩
              clear hiv
              go_wp2
              go_quiet (fail)
              go_wp2
              go_roundw
              case rel => exact ⟨r + 1, by omega, by go_num, EN.out _⟩
              case measure => simp [intOf]; omega
          ·
            as_aux_lemma =>
              have HF : Hid (p j ≠ p r) := fun e => hy (by rw [PJ.out, PR.out] at e; exact (Prod.mk.inj e).2)
              go_wp2
              have dx : decide (xj = xr) = true := decide_eq_true hx
              have dy : decide (yj = yr) = false := decide_eq_false hy
              go_quiet (fail)
              go_wp2
              go_roundw
              case rel => exact ⟨j + 1, by omega, rfl, by go_num, fun i hi => by by_cases e : i = j; subst e; exact HF.out; exact HNO.out i (by omega), EI.out.drewN _⟩
              case measure => simp [intOf]; omega
        ·
          as_aux_lemma =>
            have HF : Hid (p j ≠ p r) := fun e => hx (by rw [PJ.out, PR.out] at e; exact (Prod.mk.inj e).1)
            go_wp2
            have dx : decide (xj = xr) = false := decide_eq_false hx
            have dx2 : (xj == xr) = false := by simpa using hx
            go_quiet (fail)
            go_wp2
            go_roundw
            case rel => exact ⟨j + 1, by omega, rfl, by go_num, fun i hi => by by_cases e : i = j; subst e; exact HF.out; exact HNO.out i (by omega), EI.out.drewN _⟩
            case measure => simp [intOf]; omega
      ·
        as_aux_lemma =>
          obtain rfl : r = j := by omega
          have kj : ¬ ((r : Int) < (r : Int)) := by omega
          have HNW : Hid (NoIdx2 p r) := fun ⟨i, hi, e⟩ => HNO.out i hi e
          have e6 := EI.out.bi.free r
          have e7 : w13.cell? ⟨Bi, r, none⟩ = some (.int .i64 (idr p r r)) := by rw [EI.out.bi.cell r, rowOf_get _ (by omega)]
          have FR : Hid ((w13.setCell ⟨Bi, r, none⟩ (.int .i64 ((lf : Nat) : Int))).ownsRow (Bi + 1) 3 1 (.slice af lf cf) lf ((fo p r).map (fun j => Value.int .i64 ((j : Nat) : Int)))) := by
            have h := EI.out.f
            rw [← HLF.out] at h
            exact ownsRow_same h fun b _ hb => heap_setCell_other w13 _ b _ (by simp; omega)
          have s13 := EI.out.sz
          go_wp2_with (at_builtin; refine wpList_append_own_at _ rfl (.tmp 310) (.tmp 312) 22 rfl (Bi + 1) 3 i3 (.int .i64 0) 1 8 Try.underlying22 hi3 hx0 hx1 hx2 rfl (by decide) (.slice af lf cf) lf ((fo p r).map (fun j => Value.int .i64 ((j : Nat) : Int))) rfl (FR.out.alloc _) ⟨w13.heap.size, 0, none⟩ 1 1 [.int .i64 ((r : Nat) : Int)] rfl rfl ?d1 ?d2 ?d3 ?d4 ?d5 ?_)
          case d3 => unfold maxLen; omega
          case d4 => omega
          case d5 => omega
          intro u9 w14 hown9 hg9 _ hloc9
          have EN : Hid (Ei p rn Bi w11 (r + 1) u9 w14) := EI.out.new HNW.out (by rw [← HLF.out]; exact hown9) (by rw [← HLF.out]; exact hg9)
          clear hown9 hg9 hloc9
          go_wp2
          go_roundw
          case rel => exact ⟨r + 1, by omega, by go_num, EN.out⟩
          case measure => simp [intOf]; omega
  obtain rfl : rn = r := by omega
  have kr : ¬ ((rn : Int) < (rn : Int)) := by omega
  obtain rfl : vn = lf := VN.out.trans HLF.out.symm
  obtain ⟨Q2, hQ2⟩ : ∃ Q2 : World → Prop, Q2 = fun W => Q W ∧ Rw W af vn cf (ints .i64 (fun v => ((fo p rn).getD v 0 : Nat))) ∧ Rw W (some ⟨Bi, 0, none⟩) rn rn (ints .i64 (fun j => (idv p j : Nat))) := ⟨_, rfl⟩
  have P2 : Hid (∀ W, Q2 W → Q W ∧ Rw W af vn cf (ints .i64 (fun v => ((fo p rn).getD v 0 : Nat))) ∧ Rw W (some ⟨Bi, 0, none⟩) rn rn (ints .i64 (fun j => (idv p j : Nat)))) := by
    show ∀ W, Q2 W → _
    rw [hQ2]; exact fun W h => h
  have L2 : Hid (∀ W W', Q2 W → Below W.heap.size W W' → Q2 W') := by
    show ∀ W W', Q2 W → Below W.heap.size W W' → Q2 W'
    rw [hQ2]; exact fun W W' h hb => ⟨QL.out _ _ h.1 hb, h.2.1.later hb, h.2.2.later hb⟩
  have Q12 : Hid (Q2 w12) := by
    show Q2 w12
    rw [hQ2]
    refine ⟨QL.out _ _ Q11.out EI.out.bel, ?_, ?_⟩
    · have h := EI.out.f
      rw [← HLF.out] at h
      have h2 : w12.ownsRow (Bi + 1) 3 1 (.slice af vn cf) vn (((fo p rn).map (fun j => ((j : Nat) : Int))).map (Value.int .i64)) := by rw [List.map_map]; exact h
      refine rw_congr (fam_rw h2) fun j hj => ?_
      show Value.int .i64 _ = Value.int .i64 _
      have hj2 : j < (fo p rn).length := by rw [← HLF.out]; exact hj
      simp [List.getD, hj2]
    · refine rw_congr (Rw.of_blk EI.out.bi (Nat.le_refl _)) fun j hj => ?_
      show Value.int .i64 (idr p rn j) = Value.int .i64 _
      unfold idr
      rw [if_pos hj]
  have IDL : Hid (∀ j, j < rn → idv p j < vn) := fun j hj => by rw [VN.out]; exact (idv_at p hj).1
  go_wp2
  clear kr hr hlt hQ2 EI Q11 hlf2
  go_loopw [44] (fun s wr => ∃ t : Nat, t ≤ vn ∧ s = .int .i64 t ∧ Q2 wr) (fun s _ => vn - (intOf s).toNat)
  case atStart => exact ⟨0, Nat.zero_le _, rfl, Q12.out⟩
  case round =>
  clear Q12
  obtain ⟨v8, ht, rfl, hq⟩ := hrel
  obtain ⟨w13, hw13⟩ : ∃ w13, w13 = wr := ⟨_, rfl⟩
  subst hw13
  have Q13 : Hid (Q2 w13) := hq
  clear hq
  by_cases hlt : v8 < vn
  ·
    as_aux_lemma =>
      have kt : (v8 : Int) < (vn : Int) := by omega
      obtain ⟨fv, hfv⟩ : ∃ fv, fv = (fo p rn).getD v8 0 := ⟨_, rfl⟩
      have lfv : fv < rn := by rw [hfv]; exact (fo_at p rn v8 (by rw [← VN.out]; exact hlt)).1
      obtain ⟨qv, hqv⟩ : ∃ qv, qv = q0 + fv := ⟨_, rfl⟩
      obtain ⟨yv, hyv⟩ : ∃ yv, yv = rw qv := ⟨_, rfl⟩
      have hqv2 : (q0 : Int) + (fv : Int) = (qv : Int) := by omega
      have kqv : (qv : Int) < (n4 : Int) := by omega
      have hyb : -2147483648 ≤ yv ∧ yv ≤ 2147483647 := by rw [hyv]; exact B5.out _
      have hyw : IntKind.i64.wrap yv = yv := by rw [IntKind.wrap_i64]; omega
      obtain ⟨bw, ow, rfl, lbw, dw⟩ := (QX.out _ (P2.out _ Q13.out).1).lx.wr.plain (by omega)
      obtain ⟨bfo, ofo, rfl, lbf, dfo⟩ := (P2.out _ Q13.out).2.1.plain (by omega)
      obtain ⟨b5, o5, rfl, l5, d5⟩ := (QX.out _ (P2.out _ Q13.out).1).r5.plain (by omega)
      have e1 : w13.cell? ⟨bw, ow + v8, none⟩ = some (.int .i64 yv) := by
        rw [dw v8 hlt]
        show some (Value.int .i64 (p ((fo p rn).getD v8 0)).2) = _
        rw [← hfv, PA.out, hyv, hqv]
      have e2 : w13.cell? ⟨bfo, ofo + v8, none⟩ = some (.int .i64 ((fv : Nat) : Int)) := by rw [dfo v8 hlt, hfv]
      have e3 : w13.cell? ⟨b5, o5 + qv, none⟩ = some (.int .i32 yv) := by rw [d5 qv (by omega), hyv]
      clear dw dfo d5 hfv hqv hyv
      go_wp2
      go_quiet (fail)
      go_wp2
      go_roundw
      case rel => exact ⟨v8 + 1, by omega, by go_num, L2.out _ _ Q13.out (below_drewN (Below.refl _ _) _)⟩
      case measure => simp [intOf]; omega
  have kt : ¬ ((v8 : Int) < (vn : Int)) := by omega
  go_wp2
  clear kt ht hlt
  go_loopw [45] (fun s wr => ∃ t : Nat, t ≤ n0 ∧ s = .int .i64 t ∧ Q2 wr) (fun s _ => n0 - (intOf s).toNat)
  case atStart => exact ⟨0, Nat.zero_le _, rfl, Q13.out⟩
  case round =>
  clear Q13
  obtain ⟨t9, ht, rfl, hq⟩ := hrel
  obtain ⟨w14, hw14⟩ : ∃ w14, w14 = wr := ⟨_, rfl⟩
  subst hw14
  have Q14 : Hid (Q2 w14) := hq
  clear hq
  by_cases hlt : t9 < n0
  ·
    as_aux_lemma =>
      have kt : (t9 : Int) < (n0 : Int) := by omega
      have kt1 : (t9 : Int) < (n0 : Int) + 1 := by omega
      have kt2 : (t9 : Int) + 1 < (n0 : Int) + 1 := by omega
      obtain ⟨rlo, nr, re1, re2, re3⟩ := FI.out.rs.at' hlt
      obtain ⟨hi, hhi⟩ : ∃ hi, hi = rlo + nr := ⟨_, rfl⟩
      obtain ⟨g, hg⟩ : ∃ g : Nat → Int, g = fun i => rw (rlo + i) := ⟨_, rfl⟩
      have HG : Hid (g = fun i => rw (rlo + i)) := hg
      have SR : Hid (srcs rS rw t9 = srcN g nr) := by
        show _ = _
        unfold srcs
        rw [re1, re2, hg]
        congr 1
        omega
      have hle : rlo ≤ hi := by omega
      have lhi : hi ≤ n4 := by omega
      have HHI : Hid (hi = rlo + nr) := hhi
      have RE : Hid (∀ W, Q2 W → W.cell? ⟨b3, o3 + t9, none⟩ = some (.int .i64 (rlo : Int)) ∧ W.cell? ⟨b3, o3 + (t9 + 1), none⟩ = some (.int .i64 (hi : Int))) := fun W hW => by
        refine ⟨?_, ?_⟩
        · rw [rw_at (QX.out _ (P2.out _ hW).1).r3 (show t9 < n0 + 1 by omega)]; show some (Value.int .i64 (rS t9)) = _; rw [re1]
        · rw [rw_at (QX.out _ (P2.out _ hW).1).r3 (show t9 + 1 < n0 + 1 by omega)]; show some (Value.int .i64 (rS (t9 + 1))) = _; rw [re2, hhi]
      have e1 := (RE.out _ Q14.out).1
      clear re1 re2 re3 hhi hg
      go_wp2
      clear e1
      go_loopw [46, 47] (fun v s wr => ∃ q : Nat, rlo ≤ q ∧ q ≤ hi ∧ s = .int .i64 q ∧ Wn g w14 (q - rlo) v wr) (fun _ s _ => hi - (intOf s).toNat)
      case atStart => exact ⟨rlo, Nat.le_refl _, hle, rfl, by rw [Nat.sub_self]; exact Wn.start g w14⟩
      case round =>
      rename_i vw _ _
      obtain ⟨q, hq1, hq2, rfl, hwn⟩ := hrel
      obtain ⟨w15, hw15⟩ : ∃ w15, w15 = wr := ⟨_, rfl⟩
      subst hw15
      obtain ⟨k, hk⟩ : ∃ k, k = q - rlo := ⟨_, rfl⟩
      rw [← hk] at hwn
      have KQ : Hid (q = rlo + k) := show q = rlo + k by omega
      obtain ⟨aw2, cw2, hvw⟩ := ownsRow_shape hwn.f
      subst hvw
      obtain ⟨L, hL⟩ : ∃ L, L = (srcN g k).length := ⟨_, rfl⟩
      have lL : L ≤ k := by rw [hL]; exact srcN_len _ _
      rw [← hL] at hwn ⊢
      have HL : Hid (L = (srcN g k).length) := hL
      have WN : Hid (Wn g w14 k (.slice aw2 L cw2) w15) := hwn
      have Q15 : Hid (Q2 w15) := L2.out _ _ Q14.out hwn.bel
      have lk : k ≤ nr := by have := HHI.out; omega
      have lnr : nr ≤ n4 := by have := HHI.out; omega
      clear hwn hL hk
      have e2 := (RE.out _ Q15.out).2
      by_cases hlq : q < hi
      ·
        as_aux_lemma =>
          have kq : (q : Int) < (hi : Int) := by omega
          have kq4 : (q : Int) < (n4 : Int) := by omega
          obtain ⟨yy, hyy⟩ : ∃ yy, yy = rw q := ⟨_, rfl⟩
          have YG : Hid (g k = yy) := by show _ = _; rw [HG.out, hyy, KQ.out]
          have hyb : -2147483648 ≤ yy ∧ yy ≤ 2147483647 := by rw [hyy]; exact B5.out _
          have hyw : IntKind.i64.wrap yy = yy := by rw [IntKind.wrap_i64]; omega
          obtain ⟨b5, o5, rfl, l5, d5⟩ := (QX.out _ (P2.out _ Q15.out).1).r5.plain (by omega)
          have e3 : w15.cell? ⟨b5, o5 + q, none⟩ = some (.int .i32 yy) := by rw [d5 q (by omega), hyy]
          clear d5 hyy l5
          go_wp2
          clear e3
          go_loop [49, 50] (fun d s => ∃ (i : Nat) (b : Bool), i ≤ L ∧ s = .int .i64 i ∧ d = .bool b ∧ (b = true ↔ ∃ j, j < i ∧ (srcN g k).getD j 0 = yy)) (fun _ s => L - (intOf s).toNat)
          case atStart => exact ⟨0, false, Nat.zero_le _, rfl, rfl, by simp⟩
          case round =>
          obtain ⟨i, b, hi', rfl, rfl, hb⟩ := hrel
          have HBB : Hid (b = true ↔ ∃ j, j < i ∧ (srcN g k).getD j 0 = yy) := hb
          clear hb
          by_cases hli : i < L
          · have kil : (i : Int) < (L : Int) := by omega
            obtain ⟨ui, hui⟩ : ∃ ui, ui = (srcN g k).getD i 0 := ⟨_, rfl⟩
            have RW2 : Rw w15 aw2 L cw2 (ints .i64 (fun i => (srcN g k).getD i 0)) := by
              have h := WN.out.f
              rw [← HL.out] at h
              exact fam_rw h
            obtain ⟨bu, ou, rfl, lbu, du⟩ := RW2.plain (by omega)
            have e3 : w15.cell? ⟨bu, ou + i, none⟩ = some (.int .i64 ui) := by rw [du i hli, hui]
            have HUI : Hid (ui = (srcN g k).getD i 0) := hui
            clear du hui RW2
            by_cases huy : ui = yy
            · have BN : Hid (true = true ↔ ∃ j, j < i + 1 ∧ (srcN g k).getD j 0 = yy) := ⟨fun _ => ⟨i, by omega, HUI.out.symm.trans huy⟩, fun _ => rfl⟩
              go_wp2
              go_round
              case rel => exact ⟨i + 1, true, by omega, by go_num, rfl, BN.out⟩
              case measure => simp [intOf]; omega
            · have BN : Hid (b = true ↔ ∃ j, j < i + 1 ∧ (srcN g k).getD j 0 = yy) := HBB.out.trans ⟨fun ⟨j, h1, h2⟩ => ⟨j, by omega, h2⟩, fun ⟨j, h1, h2⟩ => by
                by_cases e : j = i
                · subst e; exact absurd (HUI.out.trans h2) huy
                · exact ⟨j, by omega, h2⟩⟩
              go_wp2
              go_round
              case rel => exact ⟨i + 1, b, by omega, by go_num, rfl, BN.out⟩
              case measure => simp [intOf]; omega
          · obtain rfl : L = i := by omega
            have kil : ¬ ((L : Int) < (L : Int)) := by omega
            have MEM : Hid (b = true ↔ g k ∈ srcN g k) := HBB.out.trans (by
              rw [YG.out, HL.out]
              constructor
              · rintro ⟨j, h1, h2⟩
                rw [← h2]
                simp only [List.getD, List.getElem?_eq_getElem h1, Option.getD_some]
                exact List.getElem_mem h1
              · intro h
                obtain ⟨j, h1, h2⟩ := List.getElem_of_mem h
                exact ⟨j, h1, by simp [List.getD, h1, h2]⟩)
            cases b with
            | true =>
              have WN2 : Hid (Wn g w14 (k + 1) (.slice aw2 L cw2) w15) := WN.out.old (MEM.out.1 rfl)
              have kqr : Hid (q + 1 - rlo = k + 1) := show _ = _ by have := KQ.out; omega
              clear MEM HBB
              go_wp2
              go_roundw
              case rel => exact ⟨q + 1, by omega, by omega, by go_num, by rw [kqr.out]; exact WN2.out⟩
              case measure => simp [intOf]; omega
            | false =>
              have NM : Hid (g k ∉ srcN g k) := fun h => (by have := MEM.out.2 h; cases this)
              have kqr : Hid (q + 1 - rlo = k + 1) := show _ = _ by have := KQ.out; omega
              clear MEM HBB
              have FR : Hid (w15.ownsRow w14.heap.size 3 1 (.slice aw2 L cw2) L ((srcN g k).map (Value.int .i64))) := by
                have h := WN.out.f
                rw [← HL.out] at h
                exact h
              have s15 : w14.heap.size ≤ w15.heap.size := WN.out.bel.size
              go_wp2_with (at_builtin; refine wpList_append_own_at _ rfl (.tmp 394) (.tmp 396) 22 rfl w14.heap.size 3 i3 (.int .i64 0) 1 8 Try.underlying22 hi3 hx0 hx1 hx2 rfl (by decide) (.slice aw2 L cw2) L ((srcN g k).map (Value.int .i64)) rfl (FR.out.alloc _) ⟨w15.heap.size, 0, none⟩ 1 1 [.int .i64 yy] rfl rfl ?m1 ?m2 ?m3 ?m4 ?m5 ?_)
              try (case m1 => exact cell_one_new _ _ _)
              try (case m2 => rfl)
              case m3 => unfold maxLen; omega
              case m4 => omega
              case m5 => omega
              intro u9 w16 hown9 hg9 _ hloc9
              have WN2 : Hid (Wn g w14 (k + 1) u9 w16) := WN.out.new NM.out (by rw [← HL.out, YG.out]; exact hown9) hg9
              clear hown9 hg9 hloc9
              go_wp2
              go_roundw
              case rel => exact ⟨q + 1, by omega, by omega, by go_num, by rw [kqr.out]; exact WN2.out⟩
              case measure => simp [intOf]; omega
      have kq : ¬ ((q : Int) < (hi : Int)) := by omega
      obtain rfl : nr = k := by have h1 := KQ.out; have h2 := HHI.out; omega
      obtain ⟨as9, cs9, eus, enil, hrs⟩ := (QX.out _ (P2.out _ Q15.out).1).lx.sr t9 hlt
      rw [SR.out, ← HL.out] at eus hrs
      rw [SR.out] at enil
      have RW2 : Rw w15 aw2 L cw2 (ints .i64 (fun i => (srcN g nr).getD i 0)) := by
        have h := WN.out.f
        rw [← HL.out] at h
        exact fam_rw h
      have EMP : srcN g nr = [] → aw2 = none := fun h => by have := WN.out.emp h; simp at this; exact this.1
      have e3 : w15.cell? ⟨bs, t9, none⟩ = some (.slice as9 L cs9) := by rw [rw_cell (QX.out _ (P2.out _ Q15.out).1).lx.so hlt, eus]
      have RS1 : Hid (Rw w15 as9 L cs9 (ints .i64 (fun i => (srcN g nr).getD i 0))) := hrs
      have RS2 : Hid (Rw w15 aw2 L cw2 (ints .i64 (fun i => (srcN g nr).getD i 0))) := RW2
      have NIL : Hid (as9.isNone = aw2.isNone) := by
        show _ = _
        by_cases h : srcN g nr = []
        · rw [enil.2 h, EMP h]
        · cases as9 with
          | none => exact absurd (enil.1 rfl) h
          | some _ =>
            cases aw2 with
            | none => exact absurd (List.length_eq_zero_iff.1 (by rw [← HL.out]; exact (RW2.1 rfl).1)) h
            | some _ => rfl
      clear eus enil hrs RW2 EMP WN
      have Q15' : Q2 w15 := Q15.out
      go_upto_region 95 with fail
      go_cut [414] from 398 to 414 (fun v wx => v = .bool false ∧ Q2 wx)
      case first =>
        as_aux_lemma =>
          clear HG SR HHI RE QX QL P2 VN HLF PE Q0 PA RN IDL FI B4 B5 B7 kq kt kt1 kt2 Q14 HL
          obtain ⟨bb, h1, h2⟩ : ∃ bb, as9.isNone = bb ∧ aw2.isNone = bb := ⟨_, NIL.out, rfl⟩
          have he1 := eql_nil as9 L cs9 bb h1 w15
          have he2 := eql_nil aw2 L cw2 bb h2 w15
          clear NIL h1 h2
          cases bb with
          | true =>
            go_wp2_with (go_at_call 26; refine (sameInts_yes as9 aw2 L cs9 cw2 (fun i => (srcN g nr).getD i 0) w15 RS1.out RS2.out (by omega)).mono ?_; rintro e w16 ⟨rfl, hb16⟩)
            go_meet
            case rel => exact ⟨rfl, L2.out _ _ Q15' hb16⟩
          | false =>
            go_wp2_with (go_at_call 26; refine (sameInts_yes as9 aw2 L cs9 cw2 (fun i => (srcN g nr).getD i 0) w15 RS1.out RS2.out (by omega)).mono ?_; rintro e w16 ⟨rfl, hb16⟩)
            go_meet
            case rel => exact ⟨rfl, L2.out _ _ Q15' hb16⟩
      case rest =>
      obtain ⟨rfl, hq⟩ := hcut
      obtain ⟨w16, hw16⟩ : ∃ w16, w16 = wc := ⟨_, rfl⟩
      rw [← hw16] at hq ⊢
      have Q16 : Hid (Q2 w16) := hq
      clear hq hw16 Q15 Q15' NIL RS1 RS2 e2 e3 kq
      obtain ⟨wlo, nw, we1, we2, we3⟩ := FI.out.ws.at' hlt
      obtain ⟨whi, hwhi⟩ : ∃ whi, whi = wlo + nw := ⟨_, rfl⟩
      have hsub : IntKind.i64.wrap ((whi : Int) - (wlo : Int)) = (nw : Int) := by rw [IntKind.wrap_i64]; omega
      have f1 : w16.cell? ⟨b6, o6 + t9, none⟩ = some (.int .i64 (wlo : Int)) := by rw [rw_at (QX.out _ (P2.out _ Q16.out).1).r6 (show t9 < n0 + 1 by omega)]; show some (Value.int .i64 (wS t9)) = _; rw [we1]
      have f2 : w16.cell? ⟨b6, o6 + (t9 + 1), none⟩ = some (.int .i64 (whi : Int)) := by rw [rw_at (QX.out _ (P2.out _ Q16.out).1).r6 (show t9 + 1 < n0 + 1 by omega)]; show some (Value.int .i64 (wS (t9 + 1))) = _; rw [we2, hwhi]
      have WC : Hid (wcount wS t9 = nw ∧ (wS t9).toNat = wlo) := by
        show _ ∧ _
        unfold wcount
        rw [we1, we2]
        omega
      have lnw : wlo + nw ≤ n7 := we3
      have F1 : Hid (∀ W, Q2 W → W.cell? ⟨b6, o6 + t9, none⟩ = some (.int .i64 (wlo : Int))) := fun W hW => by rw [rw_at (QX.out _ (P2.out _ hW).1).r6 (show t9 < n0 + 1 by omega)]; show some (Value.int .i64 (wS t9)) = _; rw [we1]
      clear we1 we2 hwhi we3
      go_wp2
      go_quiet (fail)
      obtain ⟨w17, hw17⟩ : ∃ w17, w17 = w16.drewN nq := ⟨_, rfl⟩
      rw [← hw17]
      have Q17 : Hid (Q2 w17) := by rw [hw17]; exact L2.out _ _ Q16.out (below_drewN (Below.refl _ _) _)
      clear hw17 Q16 f1 f2 hsub
      obtain ⟨at9, ct9, eut, etn, hrt⟩ := (QX.out _ (P2.out _ Q17.out).1).lx.ws t9 hlt
      rw [WC.out.1] at eut etn hrt
      rw [WC.out.2] at hrt
      have f4 : w17.cell? ⟨bt, t9, none⟩ = some (.slice at9 nw ct9) := by rw [rw_cell (QX.out _ (P2.out _ Q17.out).1).lx.wt hlt, eut]
      have RT : Hid (Rw w17 at9 nw ct9 (ints .i64 (fun i => wid p rn (wI (wlo + i), (t9 : Int))))) := hrt
      have ETN : Hid (at9 = none ↔ nw = 0) := etn
      clear eut etn hrt WC
      go_upto_region 98 with fail
      go_cut [441] from 425 to 441 (fun v wx => v = .bool false ∧ wx = w17)
      case first =>
        as_aux_lemma =>
          by_cases h0 : nw = 0
          · have h1 : at9.isNone = true := by rw [ETN.out.2 h0]; rfl
            have he1 := eql_nil at9 nw ct9 true h1 w17
            have h0' : ((nw : Nat) : Int) = 0 := by omega
            clear h0 h1 ETN RT
            go_wp2
            go_meet
            case rel => exact ⟨rfl, rfl⟩
          · have h1 : at9.isNone = false := by
              cases at9 with
              | none => exact absurd (ETN.out.1 rfl) h0
              | some x1 => rfl
            have he1 := eql_nil at9 nw ct9 false h1 w17
            have h0' : ¬ ((nw : Int) = 0) := by omega
            have HBQ : Hid ((((nw : Nat) : Int) == 0) = false) := show _ = _ by simpa using h0'
            clear h0 h1 ETN RT
            go_wp2
            go_meet
            case rel => exact ⟨by rw [HBQ.out], rfl⟩
      case rest =>
      obtain ⟨rfl, hw⟩ := hcut
      obtain rfl : w17 = wc := hw.symm
      clear hw
      go_wp2
      go_loop [52] (fun s => ∃ k : Nat, k ≤ nw ∧ s = .int .i64 k) (fun s => nw - (intOf s).toNat)
      case atStart => exact ⟨0, Nat.zero_le _, rfl⟩
      case round =>
      obtain ⟨k12, hk12, rfl⟩ := hrel
      by_cases hlk : k12 < nw
      ·
        as_aux_lemma =>
          have kk : (k12 : Int) < (nw : Int) := by omega
          obtain ⟨bt9, ot9, rfl, lbt, dt⟩ := RT.out.plain (by omega)
          obtain ⟨b7, o7, rfl, l7, d7⟩ := (QX.out _ (P2.out _ Q17.out).1).r7.plain (by omega)
          obtain ⟨qk, hqk⟩ : ∃ qk, qk = wlo + k12 := ⟨_, rfl⟩
          obtain ⟨xx, hxx⟩ : ∃ xx, xx = wI qk := ⟨_, rfl⟩
          obtain ⟨zk, hzk⟩ : ∃ zk, zk = wid p rn (xx, (t9 : Int)) := ⟨_, rfl⟩
          have hqk2 : (wlo : Int) + (k12 : Int) = (qk : Int) := by omega
          have kqk : (qk : Int) < (n7 : Int) := by omega
          have f5 : w17.cell? ⟨b7, o7 + qk, none⟩ = some (.int .i32 xx) := by rw [d7 qk (by omega), hxx]
          have f6 : w17.cell? ⟨bt9, ot9 + k12, none⟩ = some (.int .i64 zk) := by
            rw [dt k12 hlk]
            show some (Value.int .i64 (wid p rn (wI (wlo + k12), (t9 : Int)))) = _
            rw [hzk, hxx, hqk]
          have f7 : w17.cell? ⟨b6, o6 + t9, none⟩ = some (.int .i64 (wlo : Int)) := F1.out _ Q17.out
          have HZ : Hid (zk = wid p rn (xx, (t9 : Int))) := hzk
          clear dt d7 hqk hxx hzk lbt l7
          go_wp2
          clear f5
          go_loop [54, 55] (fun d s => d = .int .i64 (-1) ∧ ∃ r : Nat, r ≤ rn ∧ s = .int .i64 r ∧ ∀ i, i < r → p i ≠ (xx, (t9 : Int))) (fun _ s => rn - (intOf s).toNat)
          case atStart => exact ⟨rfl, 0, Nat.zero_le _, rfl, fun i hi => by omega⟩
          case round =>
          obtain ⟨rfl, r, hr, rfl, hno⟩ := hrel
          have HNO : Hid (∀ i, i < r → p i ≠ (xx, (t9 : Int))) := hno
          clear hno
          by_cases hlr : r < rn
          · have kr : (r : Int) < (rn : Int) := by omega
            obtain ⟨b4, o4, rfl, l4, d4⟩ := (QX.out _ (P2.out _ Q17.out).1).r4.plain (by omega)
            obtain ⟨b5, o5, rfl, l5, d5⟩ := (QX.out _ (P2.out _ Q17.out).1).r5.plain (by omega)
            obtain ⟨qr, hqr⟩ : ∃ qr, qr = q0 + r := ⟨_, rfl⟩
            obtain ⟨xr, hxr⟩ : ∃ xr, xr = rI qr := ⟨_, rfl⟩
            obtain ⟨yr, hyr⟩ : ∃ yr, yr = rw qr := ⟨_, rfl⟩
            obtain ⟨iv, hiv⟩ : ∃ iv, iv = idv p r := ⟨_, rfl⟩
            have PR : Hid (p r = (xr, yr)) := by show _ = _; rw [PA.out, hxr, hyr, hqr]
            have hqr2 : (q0 : Int) + (r : Int) = (qr : Int) := by omega
            have kqr : (qr : Int) < (n4 : Int) := by omega
            have g1 : w17.cell? ⟨b4, o4 + qr, none⟩ = some (.int .i32 xr) := by rw [d4 qr (by omega), hxr]
            have g2 : w17.cell? ⟨b5, o5 + qr, none⟩ = some (.int .i32 yr) := by rw [d5 qr (by omega), hyr]
            have g3 : w17.cell? ⟨Bi, r, none⟩ = some (.int .i64 ((iv : Nat) : Int)) := by rw [rw_cell (P2.out _ Q17.out).2.2 hlr, hiv]
            have htw : IntKind.i32.wrap ((t9 : Nat) : Int) = ((t9 : Nat) : Int) := by rw [IntKind.wrap_i32]; omega
            have HIV : Hid (iv = idv p r) := hiv
            clear d4 d5 l4 l5 hqr hxr hyr hiv
            by_cases hx : xr = xx
            · by_cases hy : yr = (t9 : Int)
              · have f6' : w17.cell? ⟨bt9, ot9 + k12, none⟩ = some (.int .i64 ((iv : Nat) : Int)) := by
                  rw [f6, HZ.out, HIV.out, wid_has hlr (by rw [PR.out, hx, hy])]
                clear f6 HZ HNO PR
                go_wp2
                go_round
                case rel => exact ⟨k12 + 1, by omega, by go_num⟩
                case measure => simp [intOf]; omega
              · have HN2 : Hid (∀ i, i < r + 1 → p i ≠ (xx, (t9 : Int))) := fun i hi => by
                  by_cases e : i = r
                  · subst e; intro e2; rw [PR.out] at e2; exact hy (Prod.mk.inj e2).2
                  · exact HNO.out i (by omega)
                have dy : decide (yr = (t9 : Int)) = false := decide_eq_false hy
                have dy2 : (yr == (t9 : Int)) = false := by simpa using hy
                clear HNO
                go_wp2
                go_round
                case rel => exact ⟨rfl, r + 1, by omega, by go_num, HN2.out⟩
                case measure => simp [intOf]; omega
            · have HN2 : Hid (∀ i, i < r + 1 → p i ≠ (xx, (t9 : Int))) := fun i hi => by
                by_cases e : i = r
                · subst e; intro e2; rw [PR.out] at e2; exact hx (Prod.mk.inj e2).1
                · exact HNO.out i (by omega)
              have dx : decide (xr = xx) = false := decide_eq_false hx
              have dx2 : (xr == xx) = false := by simpa using hx
              clear HNO
              go_wp2
              go_round
              case rel => exact ⟨rfl, r + 1, by omega, by go_num, HN2.out⟩
              case measure => simp [intOf]; omega
          · obtain rfl : rn = r := by omega
            have kr : ¬ ((rn : Int) < (rn : Int)) := by omega
            have f6' : w17.cell? ⟨bt9, ot9 + k12, none⟩ = some (.int .i64 (-1)) := by
              rw [f6, HZ.out, wid_no (fun ⟨i, hi, e⟩ => HNO.out i hi e)]
            clear f6 HZ HNO
            go_wp2
            go_round
            case rel => exact ⟨k12 + 1, by omega, by go_num⟩
            case measure => simp [intOf]; omega
      have kk : ¬ ((k12 : Int) < (nw : Int)) := by omega
      go_wp2
      go_roundw
      case rel => exact ⟨t9 + 1, by omega, by go_num, Q17.out⟩
      case measure => simp [intOf]; omega
  have kt : ¬ ((t9 : Int) < (n0 : Int)) := by omega
  have hm2 : ∀ w, (Instr.makeSlice 22 (.int .i64 ((rn : Int) + (vn : Int))) (.int .i64 ((rn : Int) + (vn : Int)))).run Try.prog w = .ok (.slice (some ⟨w.heap.size, 0, none⟩) (rn + vn) (rn + vn)) (w.alloc (.cells (rowOf (fun _ => .int .i64 0) (rn + vn)) 3)) := fun w => by
    have h := mk22n (rn + vn) (by omega) w
    rw [Int.natCast_add] at h
    exact h
  have hm1 := mk22n vn (by omega)
  go_wp2
  clear kt ht hlt hm2 hm1
  obtain ⟨Be, hBe⟩ : ∃ Be, Be = w14.heap.size := ⟨_, rfl⟩
  have FS : Hid (Fr w14 Be rn vn (fun _ => 0) (fun _ => 0) (fun _ => 0) (((w14.alloc (.cells (rowOf (fun _ => .int .i64 0) (rn + vn)) 3)).alloc (.cells (rowOf (fun _ => .int .i64 0) (rn + vn)) 3)).alloc (.cells (rowOf (fun _ => .int .i64 0) vn) 3))) := by
    show Fr _ _ _ _ _ _ _ _
    rw [hBe]; exact Fr.start w14 rn vn
  obtain ⟨w15, hw15⟩ : ∃ w15, w15 = (((w14.alloc (.cells (rowOf (fun _ => .int .i64 0) (rn + vn)) 3)).alloc (.cells (rowOf (fun _ => .int .i64 0) (rn + vn)) 3)).alloc (.cells (rowOf (fun _ => .int .i64 0) vn) 3)) := ⟨_, rfl⟩
  rw [← hw15] at FS ⊢
  rw [← hBe]
  clear hw15 hBe
  obtain ⟨B1, hB1⟩ : ∃ B1, B1 = Be + 1 := ⟨_, rfl⟩
  obtain ⟨B2, hB2⟩ : ∃ B2, B2 = Be + 2 := ⟨_, rfl⟩
  have hB12 : Be + 1 + 1 = Be + 2 := rfl
  simp only [hB12]
  rw [← hB1, ← hB2]
  have HB12 : Hid (B1 = Be + 1 ∧ B2 = Be + 2) := ⟨hB1, hB2⟩
  have nE1 : Be ≠ B1 := by omega
  have nE2 : Be ≠ B2 := by omega
  have n12 : B1 ≠ B2 := by omega
  clear hB1 hB2 hB12
  have SETE : Hid (∀ en ep la wr (j : Nat) (z : Int), Fr w14 Be rn vn en ep la wr → Fr w14 Be rn vn (upd en j z) ep la (wr.setCell ⟨Be, j, none⟩ (.int .i64 z))) := fun en ep la wr j z h => h.setE j z
  have SETP : Hid (∀ en ep la wr (j : Nat) (z : Int), Fr w14 Be rn vn en ep la wr → Fr w14 Be rn vn en (upd ep j z) la (wr.setCell ⟨B1, j, none⟩ (.int .i64 z))) := fun en ep la wr j z h => by rw [HB12.out.1]; exact h.setP j z
  have SETL : Hid (∀ en ep la wr (j : Nat) (z : Int), Fr w14 Be rn vn en ep la wr → Fr w14 Be rn vn en ep (upd la j z) (wr.setCell ⟨B2, j, none⟩ (.int .i64 z))) := fun en ep la wr j z h => by rw [HB12.out.2]; exact h.setL j z
  have CE : Hid (∀ en ep la wr (j : Nat), Fr w14 Be rn vn en ep la wr → j < rn + vn → wr.cell? ⟨Be, j, none⟩ = some (.int .i64 (en j)) ∧ wr.frozen? ⟨Be, j, none⟩ = false) := fun en ep la wr j h hj => ⟨(h.be.cell j).trans (rowOf_get _ hj), h.be.free j⟩
  have CP : Hid (∀ en ep la wr (j : Nat), Fr w14 Be rn vn en ep la wr → j < rn + vn → wr.cell? ⟨B1, j, none⟩ = some (.int .i64 (ep j)) ∧ wr.frozen? ⟨B1, j, none⟩ = false) := fun en ep la wr j h hj => by rw [HB12.out.1]; exact ⟨(h.bp.cell j).trans (rowOf_get _ hj), h.bp.free j⟩
  have CL : Hid (∀ en ep la wr (j : Nat), Fr w14 Be rn vn en ep la wr → j < vn → wr.cell? ⟨B2, j, none⟩ = some (.int .i64 (la j)) ∧ wr.frozen? ⟨B2, j, none⟩ = false) := fun en ep la wr j h hj => by rw [HB12.out.2]; exact ⟨(h.bl.cell j).trans (rowOf_get _ hj), h.bl.free j⟩
  go_loopw [59] (fun s wr => ∃ v : Nat, v ≤ vn ∧ s = .int .i64 v ∧ Fr w14 Be rn vn (fun _ => 0) (fun _ => 0) (lam v) wr) (fun s _ => vn - (intOf s).toNat)
  case atStart => exact ⟨0, Nat.zero_le _, rfl, FS.out.laIs fun j _ => by simp [lam]⟩
  case round =>
  clear FS
  obtain ⟨v14, ht, rfl, hfr⟩ := hrel
  obtain ⟨w16, hw16⟩ : ∃ w16, w16 = wr := ⟨_, rfl⟩
  subst hw16
  have FQ : Hid (Fr w14 Be rn vn (fun _ => 0) (fun _ => 0) (lam v14) w16) := hfr
  clear hfr
  by_cases hlt : v14 < vn
  ·
    as_aux_lemma =>
      have kt : (v14 : Int) < (vn : Int) := by omega
      obtain ⟨e1, e2⟩ := CL.out _ _ _ _ v14 FQ.out hlt
      have FN : Hid (Fr w14 Be rn vn (fun _ => 0) (fun _ => 0) (lam (v14 + 1)) (w16.setCell ⟨B2, v14, none⟩ (.int .i64 (-1)))) := by
        show Fr _ _ _ _ _ _ _ _
        rw [← lam_step]; exact SETL.out _ _ _ _ _ _ FQ.out
      go_wp2
      go_roundw
      case rel => exact ⟨v14 + 1, by omega, by go_num, FN.out⟩
      case measure => simp [intOf]; omega
  have kt : ¬ ((v14 : Int) < (vn : Int)) := by omega
  obtain rfl : vn = v14 := by omega
  have FE : Hid (Fr w14 Be rn vn (er rn (idv p) 0).en (er rn (idv p) 0).ep (er rn (idv p) 0).la w16) := FQ.out.laIs fun j hj => by simp [lam, hj, er]
  go_wp2
  clear kt ht hlt FQ
  go_loopw [60] (fun s wr => ∃ r : Nat, r ≤ rn ∧ s = .int .i64 r ∧ Fr w14 Be rn vn (er rn (idv p) r).en (er rn (idv p) r).ep (er rn (idv p) r).la wr) (fun s _ => rn - (intOf s).toNat)
  case atStart => exact ⟨0, Nat.zero_le _, rfl, FE.out⟩
  case round =>
  clear FE
  obtain ⟨r15, ht, rfl, hfr⟩ := hrel
  obtain ⟨w17, hw17⟩ : ∃ w17, w17 = wr := ⟨_, rfl⟩
  subst hw17
  have FQ : Hid (Fr w14 Be rn vn (er rn (idv p) r15).en (er rn (idv p) r15).ep (er rn (idv p) r15).la w17) := hfr
  clear hfr
  by_cases hlt : r15 < rn
  ·
    as_aux_lemma =>
      have kt : (r15 : Int) < (rn : Int) := by omega
      have kt2 : (r15 : Int) < (rn : Int) + (vn : Int) := by omega
      obtain ⟨iv, hiv⟩ : ∃ iv, iv = idv p r15 := ⟨_, rfl⟩
      have liv : iv < vn := by rw [hiv]; exact IDL.out _ hlt
      have kiv : (iv : Int) < (vn : Int) := by omega
      obtain ⟨hd, hhd⟩ : ∃ hd, hd = rn + iv := ⟨_, rfl⟩
      have hhd2 : (rn : Int) + (iv : Int) = (hd : Int) := by omega
      have khd : (hd : Int) < (rn : Int) + (vn : Int) := by omega
      obtain ⟨l0, hl0⟩ : ∃ l0, l0 = (er rn (idv p) r15).la iv := ⟨_, rfl⟩
      have g3 : w17.cell? ⟨Bi, r15, none⟩ = some (.int .i64 ((iv : Nat) : Int)) := by rw [rw_cell (P2.out _ (L2.out _ _ Q14.out FQ.out.bel)).2.2 hlt, hiv]
      obtain ⟨e1, e2⟩ := CL.out _ _ _ _ iv FQ.out liv
      rw [← hl0] at e1
      obtain ⟨e3, e4⟩ := CP.out _ _ _ _ r15 FQ.out (by omega)
      by_cases hneg : l0 < 0
      · obtain ⟨e5, e6⟩ := CE.out _ _ _ _ hd FQ.out (by omega)
        have FN : Hid (Fr w14 Be rn vn (er rn (idv p) (r15 + 1)).en (er rn (idv p) (r15 + 1)).ep (er rn (idv p) (r15 + 1)).la (((w17.setCell ⟨B1, r15, none⟩ (.int .i64 (hd : Int))).setCell ⟨Be, hd, none⟩ (.int .i64 (r15 : Int))).setCell ⟨B2, iv, none⟩ (.int .i64 (r15 : Int)))) := by
          have h := SETL.out _ _ _ _ iv (r15 : Int) (SETE.out _ _ _ _ hd (r15 : Int) (SETP.out _ _ _ _ r15 (hd : Int) FQ.out))
          rw [hhd, hiv] at h ⊢
          exact fr_lt (la := fun _ => 0) h (by rw [← hiv, ← hl0]; exact hneg)
        clear hiv hhd hl0
        go_wp2
        go_roundw
        case rel => exact ⟨r15 + 1, by omega, by go_num, FN.out⟩
        case measure => simp [intOf]; omega
      · obtain ⟨l, hl1, hl2⟩ := la_read rn vn (idv p) IDL.out (show r15 ≤ rn by omega) liv (by rw [← hl0]; omega)
        have hl3 : l0 = ((l : Nat) : Int) := hl0.trans hl1
        subst hl3
        have kl : (l : Int) < (rn : Int) + (vn : Int) := by omega
        have hneg2 : ¬ (((l : Nat) : Int) < 0) := by omega
        obtain ⟨e5, e6⟩ := CE.out _ _ _ _ l FQ.out (by omega)
        have FN : Hid (Fr w14 Be rn vn (er rn (idv p) (r15 + 1)).en (er rn (idv p) (r15 + 1)).ep (er rn (idv p) (r15 + 1)).la (((w17.setCell ⟨B1, r15, none⟩ (.int .i64 (l : Int))).setCell ⟨Be, l, none⟩ (.int .i64 (r15 : Int))).setCell ⟨B2, iv, none⟩ (.int .i64 (r15 : Int)))) := by
          have h := SETL.out _ _ _ _ iv (r15 : Int) (SETE.out _ _ _ _ l (r15 : Int) (SETP.out _ _ _ _ r15 (l : Int) FQ.out))
          rw [hiv] at h ⊢
          exact fr_ge h (by rw [← hiv]; exact hl1)
        clear hiv hhd hl0 hl1 hneg
        go_wp2
        go_roundw
        case rel => exact ⟨r15 + 1, by omega, by go_num, FN.out⟩
        case measure => simp [intOf]; omega
  have kt : ¬ ((r15 : Int) < (rn : Int)) := by omega
  obtain rfl : rn = r15 := by omega
  have VAL : Hid (∀ v, v < vn → ∃ r, r < rn ∧ idv p r = v) := fun v hv => (idv_all p rn).2 v (by rw [← VN.out]; exact hv)
  obtain ⟨la, hla⟩ : ∃ la, la = (er rn (idv p) rn).la := ⟨_, rfl⟩
  obtain ⟨s0, hs0⟩ : ∃ s0, s0 = ((er rn (idv p) rn).en, (er rn (idv p) rn).ep) := ⟨_, rfl⟩
  have FE : Hid (Fr w14 Be rn vn (ef rn la 0 s0).1 (ef rn la 0 s0).2 la w17) := by
    show Fr _ _ _ _ _ _ _ _
    rw [hla, hs0]; exact FQ.out
  have LAA : Hid (∀ v, v < vn → ∃ l : Nat, la v = (l : Int) ∧ l < rn) := fun v hv => by rw [hla]; exact la_all rn vn (idv p) IDL.out VAL.out hv
  have RNG : Hid (∀ x, x < rn + vn → ((np rn (idv p) rn).1 x : Int) = (ef rn la vn s0).1 x ∧ ((np rn (idv p) rn).2 x : Int) = (ef rn la vn s0).2 x) := fun x hx => by rw [hla, hs0]; exact rings_eq rn vn (idv p) IDL.out VAL.out x hx
  go_wp2
  clear kt ht hlt FQ hla hs0
  go_loopw [63] (fun s wr => ∃ v : Nat, v ≤ vn ∧ s = .int .i64 v ∧ Fr w14 Be rn vn (ef rn la v s0).1 (ef rn la v s0).2 la wr) (fun s _ => vn - (intOf s).toNat)
  case atStart => exact ⟨0, Nat.zero_le _, rfl, FE.out⟩
  case round =>
  clear FE
  obtain ⟨v16, ht, rfl, hfr⟩ := hrel
  obtain ⟨w18, hw18⟩ : ∃ w18, w18 = wr := ⟨_, rfl⟩
  subst hw18
  have FQ : Hid (Fr w14 Be rn vn (ef rn la v16 s0).1 (ef rn la v16 s0).2 la w18) := hfr
  clear hfr
  by_cases hlt : v16 < vn
  ·
    as_aux_lemma =>
      have kt : (v16 : Int) < (vn : Int) := by omega
      obtain ⟨hd, hhd⟩ : ∃ hd, hd = rn + v16 := ⟨_, rfl⟩
      have hhd2 : (rn : Int) + (v16 : Int) = (hd : Int) := by omega
      have khd : (hd : Int) < (rn : Int) + (vn : Int) := by omega
      obtain ⟨l, hl1, hl2⟩ := LAA.out v16 hlt
      have kl : (l : Int) < (rn : Int) + (vn : Int) := by omega
      obtain ⟨e1, e2⟩ := CL.out _ _ _ _ v16 FQ.out hlt
      rw [hl1] at e1
      obtain ⟨e3, e4⟩ := CE.out _ _ _ _ l FQ.out (by omega)
      obtain ⟨e5, e6⟩ := CP.out _ _ _ _ hd FQ.out (by omega)
      have FN : Hid (Fr w14 Be rn vn (ef rn la (v16 + 1) s0).1 (ef rn la (v16 + 1) s0).2 la ((w18.setCell ⟨Be, l, none⟩ (.int .i64 (hd : Int))).setCell ⟨B1, hd, none⟩ (.int .i64 (l : Int)))) := by
        have h := SETP.out _ _ _ _ hd (l : Int) (SETE.out _ _ _ _ l (hd : Int) FQ.out)
        rw [hhd] at h ⊢
        exact fr_ef h hl1
      clear hhd hl1
      go_wp2
      go_roundw
      case rel => exact ⟨v16 + 1, by omega, by go_num, FN.out⟩
      case measure => simp [intOf]; omega
  have kt : ¬ ((v16 : Int) < (vn : Int)) := by omega
  obtain rfl : vn = v16 := by omega
  as_aux_lemma =>
    have Q18 := QX.out _ (P2.out _ (L2.out _ _ Q14.out FQ.out.bel)).1
    have N1 : Hid (Rw w18 an (rn + vn) cn (ints .i64 (fun j => ((np rn (idv p) rn).1 j : Int)))) := Q18.lx.nx
    have N2 : Hid (Rw w18 ap (rn + vn) cp (ints .i64 (fun j => ((np rn (idv p) rn).2 j : Int)))) := Q18.lx.pv
    have M1 : Hid (Rw w18 (some ⟨Be, 0, none⟩) (rn + vn) (rn + vn) (ints .i64 (fun j => ((np rn (idv p) rn).1 j : Int)))) := rw_congr (Rw.of_blk FQ.out.be (Nat.le_refl _)) fun j hj => congrArg (Value.int .i64) (RNG.out j hj).1.symm
    have M2 : Hid (Rw w18 (some ⟨B1, 0, none⟩) (rn + vn) (rn + vn) (ints .i64 (fun j => ((np rn (idv p) rn).2 j : Int)))) := by
      rw [HB12.out.1]
      exact rw_congr (Rw.of_blk FQ.out.bp (Nat.le_refl _)) fun j hj => congrArg (Value.int .i64) (RNG.out j hj).2.symm
    have E18 : Hid (Below w.heap.size w w18) := Q18.bel
    clear Q18 FQ SETE SETP SETL CE CP CL RNG LAA VAL HB12 QX QL P2 L2 Q14 FI RN VN PA PE Q0 IDL B4 B5 B7 HLF
    go_wp2_with (go_at_call 26; first | (refine (sameInts_yes ap (some ⟨B1, 0, none⟩) (rn + vn) cp (rn + vn) (fun j => ((np rn (idv p) rn).2 j : Int)) w19 (N2.out.later hb19) (M2.out.later hb19) (by omega)).mono ?_; rintro e w20 ⟨rfl, hb20⟩) | (refine (sameInts_yes an (some ⟨Be, 0, none⟩) (rn + vn) cn (rn + vn) (fun j => ((np rn (idv p) rn).1 j : Int)) w18 N1.out M1.out (by omega)).mono ?_; rintro e w19 ⟨rfl, hb19⟩))
    go_ret
    exact ⟨rfl, below_next (below_next E18.out hb19) hb20⟩
end Go.Proofs.Qxb6602948a

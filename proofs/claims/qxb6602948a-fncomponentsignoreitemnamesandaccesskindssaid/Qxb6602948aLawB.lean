import Derived.Test.Qxb6602948aZc
import Derived.Test.Qxb6602948aGlen
import Derived.Test.Qxb6602948aLawBase
import Derived.Test.Qxb6602948aPx
namespace Go.Proofs.Qxb6602948a
open Go.RowKit Go.Kx Go.Uf
set_option linter.unusedVariables false

set_option maxRecDepth 100000 in
set_option maxHeartbeats 800000 in
theorem ignoreLaw (T : Int) (imp : Bool) (a0 a3 a4 a5 a6 a7 : Option Addr) (n0 n3 n4 n5 n6 n7 c0 c3 c4 c5 c6 c7 : Nat) (z0 rS rI rw wS wI : Nat → Int) (w : World)
    (r0 : Rw w a0 n0 c0 (ints .u64 z0)) (r3 : Rw w a3 n3 c3 (ints .i64 rS)) (r4 : Rw w a4 n4 c4 (ints .i32 rI)) (r5 : Rw w a5 n5 c5 (ints .i32 rw)) (r6 : Rw w a6 n6 c6 (ints .i64 wS)) (r7 : Rw w a7 n7 c7 (ints .i32 wI))
    (b4 : ∀ j, -2147483648 ≤ rI j ∧ rI j ≤ 2147483647) (b7 : ∀ j, -2147483648 ≤ wI j ∧ wI j ≤ 2147483647) :
    Calls Try.prog 5 #[.slice a0 n0 c0, .int .i64 T, .bool imp, .slice a3 n3 c3, .slice a4 n4 c4, .slice a5 n5 c5, .slice a6 n6 c6, .slice a7 n7 c7] w fun e w' => e = .returned (.bool true) ∧ Below w.heap.size w w' := by
  have R0 : Hid (Rw w a0 n0 c0 (ints .u64 z0)) := r0
  have R3 : Hid (Rw w a3 n3 c3 (ints .i64 rS)) := r3
  have R4 : Hid (Rw w a4 n4 c4 (ints .i32 rI)) := r4
  have R5 : Hid (Rw w a5 n5 c5 (ints .i32 rw)) := r5
  have R6 : Hid (Rw w a6 n6 c6 (ints .i64 wS)) := r6
  have R7 : Hid (Rw w a7 n7 c7 (ints .i32 wI)) := r7
  have B4 : Hid (∀ j, -2147483648 ≤ rI j ∧ rI j ≤ 2147483647) := b4
  have B7 : Hid (∀ j, -2147483648 ≤ wI j ∧ wI j ≤ 2147483647) := b7
  clear r0 r3 r4 r5 r6 r7 b4 b7
  go_enter Try.func5, Try.ntmps5
  go_wp2_with fail
  refine (bytes22 _ _ _ _ _ _ _ _ _ _ _ _ _ _ _ _ _ _ _ _ _).mono ?_
  rintro e w' ⟨b, rfl, rfl⟩
  cases b with
  | false =>
    go_wp2
    go_ret
    exact ⟨rfl, Below.refl _ _⟩
  | true =>
  by_cases ln0 : n0 ≤ 4096
  rotate_left
  · have d : decide ((4096 : Int) < (n0 : Int)) = true := decide_eq_true (by omega)
    go_wp2
    go_ret
    exact ⟨rfl, Below.refl _ _⟩
  have dn0 : decide ((4096 : Int) < (n0 : Int)) = false := decide_eq_false (by omega)
  by_cases ln3 : n3 ≤ 4097
  rotate_left
  · have d : decide ((4097 : Int) < (n3 : Int)) = true := decide_eq_true (by omega)
    go_wp2
    go_ret
    exact ⟨rfl, Below.refl _ _⟩
  have dn3 : decide ((4097 : Int) < (n3 : Int)) = false := decide_eq_false (by omega)
  by_cases ln4 : n4 ≤ 16384
  rotate_left
  · have d : decide ((16384 : Int) < (n4 : Int)) = true := decide_eq_true (by omega)
    go_wp2
    go_ret
    exact ⟨rfl, Below.refl _ _⟩
  have dn4 : decide ((16384 : Int) < (n4 : Int)) = false := decide_eq_false (by omega)
  by_cases ln5 : n5 ≤ 16384
  rotate_left
  · have d : decide ((16384 : Int) < (n5 : Int)) = true := decide_eq_true (by omega)
    go_wp2
    go_ret
    exact ⟨rfl, Below.refl _ _⟩
  have dn5 : decide ((16384 : Int) < (n5 : Int)) = false := decide_eq_false (by omega)
  by_cases ln6 : n6 ≤ 4097
  rotate_left
  · have d : decide ((4097 : Int) < (n6 : Int)) = true := decide_eq_true (by omega)
    go_wp2
    go_ret
    exact ⟨rfl, Below.refl _ _⟩
  have dn6 : decide ((4097 : Int) < (n6 : Int)) = false := decide_eq_false (by omega)
  by_cases ln7 : n7 ≤ 16384
  rotate_left
  · have d : decide ((16384 : Int) < (n7 : Int)) = true := decide_eq_true (by omega)
    go_wp2
    go_ret
    exact ⟨rfl, Below.refl _ _⟩
  have dn7 : decide ((16384 : Int) < (n7 : Int)) = false := decide_eq_false (by omega)
  by_cases lT : 0 ≤ T
  rotate_left
  · have d : decide (T < 0) = true := decide_eq_true (by omega)
    go_wp2
    go_ret
    exact ⟨rfl, Below.refl _ _⟩
  have dT : decide (T < 0) = false := decide_eq_false (by omega)
  by_cases lT2 : T ≤ 65536
  rotate_left
  · have d : decide ((65536 : Int) < T) = true := decide_eq_true (by omega)
    go_wp2
    go_ret
    exact ⟨rfl, Below.refl _ _⟩
  have dT2 : decide ((65536 : Int) < T) = false := decide_eq_false (by omega)
  obtain ⟨items, rfl⟩ := Int.eq_ofNat_of_zero_le lT
  have lit : items ≤ 65536 := by omega
  clear lT lT2
  go_wp2_with fail
  refine (histOK_any n0 items a3 n3 c3 rS a4 n4 c4 rI a5 n5 c5 a6 n6 c6 wS a7 n7 c7 wI _ R3.out R4.out R6.out R7.out B4.out B7.out (by omega) (by omega) (by omega) (by omega) (by omega) (by omega) (by omega)).mono ?_
  rintro e w1 ⟨b, rfl, hok, hb1⟩
  cases b with
  | false =>
    clear hok
    go_wp2
    go_ret
    exact ⟨rfl, hb1⟩
  | true =>
  have OK : Hid (HOk n0 items n4 n5 n7 n3 n6 rS rI wS wI) := hok rfl
  clear hok
  obtain rfl : n4 = n5 := OK.out.len.symm
  obtain rfl : n0 + 1 = n3 := OK.out.rs.len.symm
  obtain rfl : n0 + 1 = n6 := OK.out.ws.len.symm
  have f32 : ∀ (z : Nat → Int) (j : Nat), (ints .i32 z j).oneCell' = true := fun _ _ => rfl
  have f64 : ∀ (z : Nat → Int) (j : Nat), (ints .i64 z j).oneCell' = true := fun _ _ => rfl
  have fu64 : ∀ (z : Nat → Int) (j : Nat), (ints .u64 z j).oneCell' = true := fun _ _ => rfl
  have E1 : Hid (Below w.heap.size w w1) := hb1
  clear hb1
  go_wp2_with fail
  refine (cloneU64_any a0 n0 c0 _ _ (R0.out.later E1.out) (fu64 z0) (by omega)).mono ?_
  rintro e w2 ⟨a0', c0', rfl, K0⟩
  have E2 : Hid (Below w.heap.size w w2) := below_next E1.out K0.1
  clear K0 E1 R0
  go_wp2_with fail
  refine (cloneInts_any a3 (n0 + 1) c3 _ _ (R3.out.later E2.out) (f64 rS) (by omega)).mono ?_
  rintro e w3 ⟨a3', c3', rfl, K3⟩
  have E3 : Hid (Below w.heap.size w w3) := below_next E2.out K3.1
  have r3' := K3.rw
  clear K3 E2
  go_wp2_with fail
  refine (cloneI32_any a4 n4 c4 _ _ (R4.out.later E3.out) (f32 rI) (by omega)).mono ?_
  rintro e w4 ⟨a4', c4', rfl, K4⟩
  have E4 : Hid (Below w.heap.size w w4) := below_next E3.out K4.1
  have r4' := K4.rw
  have r34 := r3'.later K4.1
  clear K4 E3 r3'
  go_wp2_with fail
  refine (cloneI32_any a5 n4 c5 _ _ (R5.out.later E4.out) (f32 rw) (by omega)).mono ?_
  rintro e w5 ⟨a5', c5', rfl, K5⟩
  have E5 : Hid (Below w.heap.size w w5) := below_next E4.out K5.1
  have r5' := K5.rw
  have r35 := r34.later K5.1
  have r45 := r4'.later K5.1
  clear K5 E4 R5 r34 r4'
  go_wp2_with fail
  refine (cloneInts_any a6 (n0 + 1) c6 _ _ (R6.out.later E5.out) (f64 wS) (by omega)).mono ?_
  rintro e w6 ⟨a6', c6', rfl, K6⟩
  have E6 : Hid (Below w.heap.size w w6) := below_next E5.out K6.1
  have r6' := K6.rw
  have r36 := r35.later K6.1
  have r46 := r45.later K6.1
  have r56 := r5'.later K6.1
  clear K6 E5 r35 r45 r5'
  go_wp2_with fail
  refine (cloneI32_any a7 n7 c7 _ _ (R7.out.later E6.out) (f32 wI) (by omega)).mono ?_
  rintro e w7 ⟨a7', c7', rfl, K7⟩
  have E7 : Hid (Below w.heap.size w w7) := below_next E6.out K7.1
  have r7' := K7.rw
  obtain rfl := K7.cap.symm
  have r37 := r36.later K7.1
  have r47 := r46.later K7.1
  have r57 := r56.later K7.1
  have r67 := r6'.later K7.1
  clear K7 E6 r36 r46 r56 r6'
  have T3 : Hid (Rw w7 a3' (n0 + 1) c3' (ints .i64 rS)) := r37
  have T4 : Hid (Rw w7 a4' n4 c4' (ints .i32 rI)) := r47
  have T5 : Hid (Rw w7 a5' n4 c5' (ints .i32 rw)) := r57
  have T6 : Hid (Rw w7 a6' (n0 + 1) c6' (ints .i64 wS)) := r67
  have T7 : Hid (Rw w7 a7' n7 n7 (ints .i32 wI)) := r7'
  clear r37 r47 r57 r67 r7'
  go_wp2_with fail
  refine (hist_any a0' n0 c0' items imp a3' (n0 + 1) c3' a4' n4 c4' a5' c5' a6' (n0 + 1) c6' a7' n7 n7 rI rw _ T4.out T5.out (by omega)).mono ?_
  rintro e w8 ⟨H, rfl, hH, hHlt, hBq, hb8⟩
  have E8 : Hid (Below w.heap.size w w8) := below_next E7.out hb8
  have HB : Hid (Hb w8 H a0' n0 c0' items imp a3' c3' w7.heap.size n4 a6' c6' a7' n7 n7 rS rI rw wS wI) := ⟨hH, T3.out.later hb8, Rw2.of_blk hBq (Nat.le_refl _), T6.out.later hb8, T7.out.later hb8⟩
  have FI : Hid (Fine n0 items n4 n7 rS rI wS wI) := ⟨by omega, by omega, by omega, by omega, OK.out.rs, OK.out.ws, OK.out.ri, OK.out.wi⟩
  have F8 : Hid (Below w7.heap.size w7 w8) := hb8
  clear T5 hH hHlt hBq hb8 E7
  obtain ⟨lo, hlo0, hlo1⟩ : ∃ lo : Nat, (imp = false → lo = 0) ∧ (imp = true → lo = 1) := by cases imp; exact ⟨0, fun _ => rfl, by simp⟩; exact ⟨1, by simp, fun _ => rfl⟩
  go_wp2_with fail
  refine (zzcomp_any H lo a0' n0 c0' items imp a3' c3' w7.heap.size n4 a6' c6' a7' n7 n7 rS rI rw wS wI _ HB.out FI.out hlo0 hlo1 (by omega)).mono ?_
  rintro e w9 ⟨ag, cg, rfl, hlist, hb9⟩
  have E9 : Hid (Below w.heap.size w w9) := below_next E8.out hb9
  have F9 : Hid (Below w7.heap.size w7 w9) := below_next F8.out hb9
  have LI : Hid (Lists w9 ag cg (comps rS rI wS wI lo n0)) := hlist
  clear hlist hb9 HB E8 F8
  obtain ⟨i0, hi, hz0, hz1, hz2⟩ := info_parts info21
  have hmkA := mk22 n0 ln0
  have hmkB := mk23 n4 n7 (by omega)
  obtain ⟨P, hP⟩ : ∃ P, P = parts items rS rI wS wI := ⟨_, rfl⟩
  have HP : Hid (P = parts items rS rI wS wI) := hP
  clear hP
  go_wp2
  go_loopw [22, 23] (fun v s wr => ∃ t : Nat, t ≤ n0 ∧ s = .int .i64 t ∧ v = .slice (some ⟨w9.heap.size + 2, 0, none⟩) (P t).length (n4 + n7) ∧ Bk w9 wr n0 (n4 + n7) (fun s => if s ≤ t then ((P s).length : Int) else 0) (P t)) (fun _ s _ => n0 - (intOf s).toNat)
  case atStart =>
    have e0 : P 0 = [] := by rw [HP.out]; rfl
    refine ⟨0, Nat.zero_le _, rfl, by rw [e0]; rfl, ⟨((Blk.new w9 _ 3).alloc _).alloc _, ?_, ?_, below_alloc (below_alloc (below_alloc (Below.refl _ _) _) _) _, by simp⟩⟩
    · have h1 := (Blk.new (w9.alloc (.cells (rowOf (fun _ => .int .i64 0) (n0 + 1)) 3)) (rowOf (fun _ => .int .i64 0) (n0 + 1)) 3).alloc (.cells (rowOf (fun _ => .int .i32 0) (n4 + n7)) 21)
      rw [World.size_alloc] at h1
      refine h1.congr (rowOf_congr fun j _ => ?_)
      by_cases hj : j ≤ 0
      · obtain rfl : j = 0 := by omega
        simp [ints, e0]
      · simp [ints, hj]
    · have h1 := World.ownsRow_made (base := w9.heap.size + 2) (e := 21) (size := 1) ((w9.alloc (.cells (rowOf (fun _ => .int .i64 0) (n0 + 1)) 3)).alloc (.cells (rowOf (fun _ => .int .i64 0) (n0 + 1)) 3)) (rowOf (fun _ => .int .i32 0) (n4 + n7)) (n4 + n7) (by simp) (by unfold maxLen; omega) (by rw [rowOf_size, Nat.mul_one])
      rw [World.size_alloc, World.size_alloc] at h1
      rw [e0]
      exact h1
  case round =>
    obtain ⟨t, ht, rfl, rfl, hbk⟩ := hrel
    obtain ⟨wa, hwa⟩ : ∃ wa, wa = wr := ⟨_, rfl⟩
    subst hwa
    obtain ⟨pt, hpt⟩ : ∃ pt : Nat → Int, pt = fun s => if s ≤ t then ((P s).length : Int) else 0 := ⟨_, rfl⟩
    rw [← hpt] at hbk
    have HPT : Hid (pt = fun s => if s ≤ t then ((P s).length : Int) else 0) := hpt
    have HBK : Hid (Bk w9 wa n0 (n4 + n7) pt (P t)) := hbk
    have GA : Hid (Below w7.heap.size w7 wa) := below_next F9.out hbk.b
    clear hbk hpt
    obtain ⟨b3, o3, rfl, l3, c3⟩ := (T3.out.later GA.out).plain (by omega)
    obtain ⟨b6, o6, rfl, l6, c6⟩ := (T6.out.later GA.out).plain (by omega)
    by_cases hlt : t < n0
    · obtain ⟨rlo, nr, re1, re2, re4⟩ := starts_at OK.out.rs hlt
      obtain ⟨wlo, nw, we1, we2, we4⟩ := starts_at OK.out.ws hlt
      have kt : (t : Int) < (n0 : Int) := by omega
      have d3 : wa.cell? ⟨b3, o3 + t, none⟩ = some (.int .i64 (rlo : Int)) := by rw [c3 t (by omega)]; show some (Value.int .i64 (rS t)) = _; rw [re1]
      have PL : Hid ((Uf.part items rS rI wS wI t).length = nr + nw) := by show _ = _; rw [part_eq re1 re2 we1 we2]; simp
      have PC : (P t).length + (nr + nw) ≤ n4 + n7 := by
        have h1 := parts_len (items := items) (rI := rI) (wI := wI) OK.out.rs OK.out.ws (t + 1) (by omega)
        have h2 : (parts items rS rI wS wI (t + 1)).length = (P t).length + (nr + nw) := by rw [HP.out]; show (parts items rS rI wS wI t ++ Uf.part items rS rI wS wI t).length = _; rw [List.length_append, PL.out]
        have h3 := OK.out.rs.zero
        have h4 := OK.out.ws.zero
        rw [re2, we2, h2] at h1
        omega
      have RE : Hid (rS t = (rlo : Int) ∧ rS (t + 1) = ((rlo + nr : Nat) : Int) ∧ wS t = (wlo : Int) ∧ wS (t + 1) = ((wlo + nw : Nat) : Int)) := ⟨re1, re2, we1, we2⟩
      clear re1 re2 we1 we2 c3 c6
      have D3 : Hid (wa.cell? ⟨b3, o3 + t, none⟩ = some (.int .i64 (rlo : Int))) := d3
      go_wp2
      go_loopw [22, 24] (fun v s wr => ∃ (k : Nat) (L : List Int), k ≤ nr ∧ s = .int .i64 ((rlo + k : Nat) : Int) ∧ v = .slice (some ⟨w9.heap.size + 2, 0, none⟩) L.length (n4 + n7) ∧ L = P t ++ (Uf.part items rS rI wS wI t).take k ∧ Bk w9 wr n0 (n4 + n7) pt L) (fun _ s _ => (rlo + nr) - (intOf s).toNat)
      case atStart => exact ⟨0, _, Nat.zero_le _, rfl, rfl, by simp, HBK.out⟩
      case round =>
        obtain ⟨k, L, hk, rfl, rfl, hL, hbk⟩ := hrel
        obtain ⟨wk, hwk⟩ : ∃ wk, wk = wr := ⟨_, rfl⟩
        subst hwk
        have LN : Hid (L.length = (P t).length + k) := by show _ = _; rw [hL, List.length_append, List.length_take, PL.out]; omega
        have HL : Hid (L = P t ++ (Uf.part items rS rI wS wI t).take k) := hL
        have HBk : Hid (Bk w9 wk n0 (n4 + n7) pt L) := hbk
        have GK : Hid (Below w7.heap.size w7 wk) := below_next F9.out hbk.b
        clear hL hbk HBK GA D3 d3
        have e3 : wk.cell? ⟨b3, o3 + (t + 1), none⟩ = some (.int .i64 ((rlo + nr : Nat) : Int)) := by
          obtain ⟨b, o, he, _, c⟩ := (T3.out.later GK.out).plain (by omega)
          simp at he
          rw [he.1, he.2, c (t + 1) (by omega)]; show some (Value.int .i64 (rS (t + 1))) = _; rw [RE.out.2.1]
        have e6 : wk.cell? ⟨b6, o6 + t, none⟩ = some (.int .i64 (wlo : Int)) := by
          obtain ⟨b, o, he, _, c⟩ := (T6.out.later GK.out).plain (by omega)
          simp at he
          rw [he.1, he.2, c t (by omega)]; show some (Value.int .i64 (wS t)) = _; rw [RE.out.2.2.1]
        by_cases hlt2 : k < nr
        · obtain ⟨b4, o4, rfl, l4, c4⟩ := (T4.out.later GK.out).plain (by omega)
          obtain ⟨x, hx⟩ := Int.eq_ofNat_of_zero_le (OK.out.ri (rlo + k) (by omega)).1
          have hxm := (OK.out.ri (rlo + k) (by omega)).2
          rw [hx] at hxm
          have d4 : wk.cell? ⟨b4, o4 + (rlo + k), none⟩ = some (.int .i32 (x : Int)) := by rw [c4 (rlo + k) (by omega)]; show some (Value.int .i32 (rI (rlo + k))) = _; rw [hx]
          have HX : Hid (rI (rlo + k) = (x : Int)) := hx
          clear c4 hx
          have k1 : (rlo : Int) + (k : Int) < (rlo : Int) + (nr : Int) := by omega
          have k2 : (rlo : Int) + (k : Int) < (n4 : Int) := by omega
          have q2 : IntKind.i32.wrap ((items : Int) - 1 - (x : Int)) = (items : Int) - 1 - (x : Int) := by rw [IntKind.wrap_i32]; omega
          go_wp2_with (at_builtin; refine wpList_append_fits _ rfl (.tmp 135) (.tmp 145) 23 rfl (w9.heap.size + 2) 21 i0 1 Try.underlying23 hi hz1 (w9.heap.size + 2) _ _ _ rfl (HBk.out.o.alloc _) ⟨wk.heap.size, 0, none⟩ 1 1 [.int .i32 ((items : Int) - 1 - (x : Int))] rfl rfl ?c1 ?c2 ?c3 ?_)
          case c1 => exact cell_one_new _ _ _
          case c2 => intro u hu; simp at hu; subst hu; rfl
          case c3 => have := LN.out; omega
          intro wn hown hg
          have BN : Hid (Bk w9 wn n0 (n4 + n7) pt (L ++ [(items : Int) - 1 - (x : Int)])) := HBk.out.push hown hg
          clear hown hg d4 e3 e6
          have HN : Hid (L ++ [(items : Int) - 1 - (x : Int)] = P t ++ (Uf.part items rS rI wS wI t).take (k + 1)) := by
            show _ = _
            rw [take_next _ k ((items : Int) - 1 - (x : Int)), HL.out, List.append_assoc]
            rw [part_eq RE.out.1 RE.out.2.1 RE.out.2.2.1 RE.out.2.2.2]
            simp [List.getElem?_append, hlt2, HX.out]
          go_wp2
          go_roundw
          case rel => exact ⟨k + 1, L ++ [(items : Int) - 1 - (x : Int)], by omega, by go_num, by simp, HN.out, BN.out⟩
          case measure => simp [intOf]; omega
        · obtain rfl : k = nr := by omega
          have k1 : ¬ ((rlo : Int) + (k : Int) < (rlo : Int) + (k : Int)) := by omega
          go_wp2
          go_loopw [22, 25] (fun v s wr => ∃ (q : Nat) (L : List Int), q ≤ nw ∧ s = .int .i64 ((wlo + q : Nat) : Int) ∧ v = .slice (some ⟨w9.heap.size + 2, 0, none⟩) L.length (n4 + n7) ∧ L = P t ++ (Uf.part items rS rI wS wI t).take (k + q) ∧ Bk w9 wr n0 (n4 + n7) pt L) (fun _ s _ => (wlo + nw) - (intOf s).toNat)
          case atStart => exact ⟨0, _, Nat.zero_le _, rfl, rfl, HL.out, HBk.out⟩
          case round =>
            obtain ⟨q, L2, hq, rfl, rfl, hL2, hbk2⟩ := hrel
            obtain ⟨wq, hwq⟩ : ∃ wq, wq = wr := ⟨_, rfl⟩
            subst hwq
            have LN2 : Hid (L2.length = (P t).length + (k + q)) := by show _ = _; rw [hL2, List.length_append, List.length_take, PL.out]; omega
            have HL2 : Hid (L2 = P t ++ (Uf.part items rS rI wS wI t).take (k + q)) := hL2
            have HBq : Hid (Bk w9 wq n0 (n4 + n7) pt L2) := hbk2
            have GQ : Hid (Below w7.heap.size w7 wq) := below_next F9.out hbk2.b
            have s1 := (hbk2.s.cell (t + 1)).trans (rowOf_get _ (by omega))
            have s2 := hbk2.s.free (t + 1)
            clear hL2 hbk2 HBk GK HL LN e3 e6
            have e6 : wq.cell? ⟨b6, o6 + (t + 1), none⟩ = some (.int .i64 ((wlo + nw : Nat) : Int)) := by
              obtain ⟨b, o, he, _, c⟩ := (T6.out.later GQ.out).plain (by omega)
              simp at he
              rw [he.1, he.2, c (t + 1) (by omega)]; show some (Value.int .i64 (wS (t + 1))) = _; rw [RE.out.2.2.2]
            by_cases hlt3 : q < nw
            · obtain ⟨b7, o7, rfl, l7, c7⟩ := (T7.out.later GQ.out).plain (by omega)
              obtain ⟨x, hx⟩ := Int.eq_ofNat_of_zero_le (OK.out.wi (wlo + q) (by omega)).1
              have hxm := (OK.out.wi (wlo + q) (by omega)).2
              rw [hx] at hxm
              have d7 : wq.cell? ⟨b7, o7 + (wlo + q), none⟩ = some (.int .i32 (x : Int)) := by rw [c7 (wlo + q) (by omega)]; show some (Value.int .i32 (wI (wlo + q))) = _; rw [hx]
              have HX : Hid (wI (wlo + q) = (x : Int)) := hx
              clear c7 hx s1 s2
              have k1 : (wlo : Int) + (q : Int) < (wlo : Int) + (nw : Int) := by omega
              have k2 : (wlo : Int) + (q : Int) < (n7 : Int) := by omega
              have q2 : IntKind.i32.wrap ((items : Int) - 1 - (x : Int)) = (items : Int) - 1 - (x : Int) := by rw [IntKind.wrap_i32]; omega
              go_wp2_with (at_builtin; refine wpList_append_fits _ rfl (.tmp 160) (.tmp 170) 23 rfl (w9.heap.size + 2) 21 i0 1 Try.underlying23 hi hz1 (w9.heap.size + 2) _ _ _ rfl (HBq.out.o.alloc _) ⟨wq.heap.size, 0, none⟩ 1 1 [.int .i32 ((items : Int) - 1 - (x : Int))] rfl rfl ?c1 ?c2 ?c3 ?_)
              case c1 => exact cell_one_new _ _ _
              case c2 => intro u hu; simp at hu; subst hu; rfl
              case c3 => have := LN2.out; omega
              intro wn hown hg
              have BN : Hid (Bk w9 wn n0 (n4 + n7) pt (L2 ++ [(items : Int) - 1 - (x : Int)])) := HBq.out.push hown hg
              clear hown hg d7 e6
              have HN : Hid (L2 ++ [(items : Int) - 1 - (x : Int)] = P t ++ (Uf.part items rS rI wS wI t).take (k + (q + 1))) := by
                show _ = _
                rw [← Nat.add_assoc, take_next _ (k + q) ((items : Int) - 1 - (x : Int)), HL2.out, List.append_assoc]
                rw [part_eq RE.out.1 RE.out.2.1 RE.out.2.2.1 RE.out.2.2.2]
                simp [hlt3, HX.out]
              go_wp2
              go_roundw
              case rel => exact ⟨q + 1, L2 ++ [(items : Int) - 1 - (x : Int)], by omega, by go_num, by simp, HN.out, BN.out⟩
              case measure => simp [intOf]; omega
            · obtain rfl : q = nw := by omega
              have k3 : ¬ ((wlo : Int) + (q : Int) < (wlo : Int) + (q : Int)) := by omega
              have eP : P (t + 1) = L2 := by
                rw [HP.out]
                show parts items rS rI wS wI t ++ Uf.part items rS rI wS wI t = _
                rw [HL2.out, List.take_of_length_le (by rw [PL.out]; omega), HP.out]
              have HEP : Hid (P (t + 1) = L2) := eP
              clear eP
              go_wp2
              go_roundw
              case rel =>
                refine ⟨t + 1, by omega, by go_num, by rw [HEP.out], ?_⟩
                rw [HEP.out]
                refine bk_ints (HBq.out.mark (t + 1) (L2.length : Int)) fun j hj => ?_
                rw [HPT.out]
                by_cases e : j = t + 1
                · subst e; rw [upd_same, if_pos (Nat.le_refl _), HEP.out]
                · rw [upd_ne _ _ e]
                  by_cases e2 : j ≤ t
                  · rw [if_pos e2, if_pos (by omega)]
                  · rw [if_neg e2, if_neg (by omega)]
              case measure => simp [intOf]; omega
    · obtain rfl : n0 = t := by omega
      have k1 : ¬ ((n0 : Int) < (n0 : Int)) := by omega
      have hcap : (P n0).length ≤ n4 + n7 := by
        have h1 := parts_len (items := items) (rI := rI) (wI := wI) OK.out.rs OK.out.ws n0 (Nat.le_refl _)
        have h3 := OK.out.rs.zero
        have h4 := OK.out.ws.zero
        have h5 := OK.out.rs.last
        have h6 := OK.out.ws.last
        rw [← HP.out] at h1
        omega
      clear c3 c6 hmkA hmkB
      go_wp2_with fail
      refine (hist_any a0' n0 c0' items imp (some ⟨w9.heap.size, 0, none⟩) (n0 + 1) (n0 + 1) none 0 0 none 0 (some ⟨w9.heap.size + 1, 0, none⟩) (n0 + 1) (n0 + 1) (some ⟨w9.heap.size + 2, 0, none⟩) (P n0).length (n4 + n7) rI rw _ (Rw.nil _ _) (Rw.nil _ _) (by omega)).mono ?_
      rintro e wb ⟨H2, rfl, hH2, hlt2, hBq2, hbb⟩
      have HB2 : Hid (Hb wb H2 a0' n0 c0' items imp (some ⟨w9.heap.size, 0, none⟩) (n0 + 1) wa.heap.size 0 (some ⟨w9.heap.size + 1, 0, none⟩) (n0 + 1) (some ⟨w9.heap.size + 2, 0, none⟩) (P n0).length (n4 + n7) (fun _ => 0) rI rw pt (fun j => (P n0).getD j 0)) :=
        ⟨hH2, Rw.of_blk (f := ints .i64 (fun _ => 0)) (HBK.out.z.later hbb) (Nat.le_refl _), Rw2.of_blk hBq2 (Nat.le_refl _), Rw.of_blk (HBK.out.s.later hbb) (Nat.le_refl _), (row_i32 HBK.out.o).later hbb⟩
      have RN : Hid (Renamed n0 items n4 n7 rS rI wS wI (fun _ => 0) pt (fun j => (P n0).getD j 0)) := ⟨OK.out.rs, OK.out.ws, OK.out.ri, OK.out.wi, fun _ _ => rfl, fun t ht => by rw [HPT.out, HP.out]; show (if t ≤ n0 then _ else _) = _; rw [if_pos ht], fun j _ => by rw [HP.out]⟩
      have FI2 : Hid (Fine n0 items 0 (P n0).length (fun _ => 0) rI pt (fun j => (P n0).getD j 0)) := by
        refine ⟨by omega, by omega, by omega, by omega, ⟨rfl, by simp, by intros; simp, by simp⟩, ⟨rfl, ?_, fun i hi => ?_, ?_⟩, fun q hq => by omega, fun q hq => ?_⟩
        · rw [RN.out.w2 0 (by omega)]; omega
        · rw [RN.out.w2 i (by omega), RN.out.w2 (i + 1) (by omega)]
          have := parts_grow items rS rI wS wI i
          omega
        · rw [RN.out.w2 n0 (Nat.le_refl _), HP.out]; omega
        · have h1 := parts_mem OK.out.rs OK.out.ws OK.out.ri OK.out.wi n0 (Nat.le_refl _) ((P n0).getD q 0)
          apply h1
          rw [← HP.out]
          simp [List.getD, hq]
      have FB : Hid (Below w9.heap.size w9 wb) := below_next HBK.out.b hbb
      clear hH2 hlt2 hBq2 hbb HBK
      go_wp2_with fail
      refine (zzcomp_any H2 lo a0' n0 c0' items imp (some ⟨w9.heap.size, 0, none⟩) (n0 + 1) wa.heap.size 0 (some ⟨w9.heap.size + 1, 0, none⟩) (n0 + 1) (some ⟨w9.heap.size + 2, 0, none⟩) (P n0).length (n4 + n7) (fun _ => 0) rI rw pt (fun j => (P n0).getD j 0) _ HB2.out FI2.out hlo0 hlo1 (by omega)).mono ?_
      rintro e wc ⟨a2, c2, rfl, hl2, hbc⟩
      have REN : comps (fun _ => 0) rI pt (fun j => (P n0).getD j 0) lo n0 = comps rS rI wS wI lo n0 := renamed_comps RN.out rI lo
      rw [REN] at hl2 ⊢
      have LI2 : Hid (Lists wc a2 c2 (comps rS rI wS wI lo n0)) := hl2
      have FC : Hid (Below w9.heap.size w9 wc) := below_next FB.out hbc
      have CL : Hid ((comps rS rI wS wI lo n0).length ≤ n0 ∧ ∀ j, j < (comps rS rI wS wI lo n0).length → ((comps rS rI wS wI lo n0).getD j []).length ≤ n0) := comps_len rS rI wS wI lo n0
      clear hl2 hbc REN HB2 FI2 RN FB
      go_wp2_with fail
      refine (sameLists_yes ag a2 _ cg c2 (comps rS rI wS wI lo n0) _ rfl (LI.out.later FC.out) LI2.out (by have := CL.out.1; omega) (fun j hj => by have := CL.out.2 j hj; omega)).mono ?_
      rintro e wd ⟨rfl, hbd⟩
      have FD : Hid (Below w.heap.size w wd) := below_next (below_next E9.out FC.out) hbd
      clear hbd
      go_wp2
      go_ret
      exact ⟨rfl, FD.out⟩
end Go.Proofs.Qxb6602948a

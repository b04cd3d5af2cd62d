import Derived.Test.Qxb6602948aEdgesC
namespace Go.Proofs.Qxb6602948a
open Go.RowKit Go.Kx
set_option linter.unusedVariables false

theorem Cloned.rw {e : TypeId} {w w' : World} {a a' : Option Addr} {n c' : Nat} {f : Nat → Value} (h : Cloned e w w' a a' n c' f) : Rw w' a' n c' f := by
  rcases h.2 with ⟨_, rfl, rfl, rfl, _⟩ | ⟨_, rfl, rfl, hb⟩
  · exact Rw.nil _ _
  · exact Rw.of_blk hb (Nat.le_refl _)

/-- a clone of a slice that has an element -/
theorem Cloned.some {e : TypeId} {w w' : World} {a a' : Option Addr} {n c' : Nat} {f : Nat → Value} (h : Cloned e w w' a a' n c' f) (hn : 0 < n) : a' = some ⟨w.heap.size, 0, none⟩ ∧ n = c' ∧ Blk w' w.heap.size (rowOf f n) e := by
  rcases h.2 with ⟨_, _, h0, _⟩ | ⟨_, rfl, rfl, hb⟩
  · omega
  · exact ⟨rfl, rfl, hb⟩

theorem row_cells {W : World} {g n : Nat} {t : TypeId} {f : Nat → Value} (h : Blk W g (rowOf f n) t) : ∀ j, j < n → W.cell? ⟨g, 0 + j, none⟩ = some (f j) := fun j hj => by rw [Nat.zero_add, h.cell]; exact rowOf_get f hj

set_option maxRecDepth 100000 in
set_option maxHeartbeats 1500000 in
theorem edgesLaw (T V : Int) (a1 a2 a3 a4 a5 a6 a8 : Option Addr) (n1 n2 n3 n4 n5 n6 n8 c1 c2 c3 c4 c5 c6 c8 : Nat) (z1 z2 wS wI it z8 : Nat → Int) (hr : Nat → Bool) (w : World)
    (r1 : Rw w a1 n1 c1 (ints .i64 z1)) (r2 : Rw w a2 n2 c2 (ints .i32 z2)) (r3 : Rw w a3 n3 c3 (ints .i64 wS)) (r4 : Rw w a4 n4 c4 (ints .i32 wI)) (r5 : Rw w a5 n5 c5 (ints .i32 it)) (r6 : Rw w a6 n6 c6 (fun j => .bool (hr j))) (r8 : Rw w a8 n8 c8 (ints .i32 z8))
    (b4 : I32 wI) (b5 : I32 it) :
    Calls Try.prog 3 #[.int .i64 T, .slice a1 n1 c1, .slice a2 n2 c2, .slice a3 n3 c3, .slice a4 n4 c4, .slice a5 n5 c5, .slice a6 n6 c6, .int .i64 V, .slice a8 n8 c8] w fun e w' => e = .returned (.bool true) ∧ Below w.heap.size w w' := by
  have R1 : Hid (Rw w a1 n1 c1 (ints .i64 z1)) := r1
  have R2 : Hid (Rw w a2 n2 c2 (ints .i32 z2)) := r2
  have R3 : Hid (Rw w a3 n3 c3 (ints .i64 wS)) := r3
  have R4 : Hid (Rw w a4 n4 c4 (ints .i32 wI)) := r4
  have R5 : Hid (Rw w a5 n5 c5 (ints .i32 it)) := r5
  have R6 : Hid (Rw w a6 n6 c6 (fun j => .bool (hr j))) := r6
  have R8 : Hid (Rw w a8 n8 c8 (ints .i32 z8)) := r8
  have B4 : Hid (I32 wI) := b4
  have B5 : Hid (I32 it) := b5
  clear r1 r2 r3 r4 r5 r6 r8 b4 b5
  go_enter Try.func3, Try.ntmps3
  go_wp2_with fail
  refine (bytes7 _ _ _ _ _ _ _ _ _ _ _ _ _ _ _ _ _ _ _ _ _ _ _ _).mono ?_
  rintro e w' ⟨b, rfl, rfl⟩
  cases b with
  | false =>
    go_wp2
    go_ret
    exact ⟨rfl, Below.refl _ _⟩
  | true =>
  by_cases ln1 : n1 ≤ 16384
  rotate_left
  · have d : decide ((16384 : Int) < (n1 : Int)) = true := decide_eq_true (by omega)
    go_wp2
    go_ret
    exact ⟨rfl, Below.refl _ _⟩
  have dn1 : decide ((16384 : Int) < (n1 : Int)) = false := decide_eq_false (by omega)
  by_cases ln2 : n2 ≤ 32768
  rotate_left
  · have d : decide ((32768 : Int) < (n2 : Int)) = true := decide_eq_true (by omega)
    go_wp2
    go_ret
    exact ⟨rfl, Below.refl _ _⟩
  have dn2 : decide ((32768 : Int) < (n2 : Int)) = false := decide_eq_false (by omega)
  by_cases ln3 : n3 ≤ 16384
  rotate_left
  · have d : decide ((16384 : Int) < (n3 : Int)) = true := decide_eq_true (by omega)
    go_wp2
    go_ret
    exact ⟨rfl, Below.refl _ _⟩
  have dn3 : decide ((16384 : Int) < (n3 : Int)) = false := decide_eq_false (by omega)
  by_cases ln4 : n4 ≤ 16384
  rotate_left
  · have d : decide ((16384 : Int) < (n4 : Int)) = true := decide_eq_true (by omega)
    go_wp2
    go_ret
    exact ⟨rfl, Below.refl _ _⟩
  have dn4 : decide ((16384 : Int) < (n4 : Int)) = false := decide_eq_false (by omega)
  by_cases ln5 : n5 ≤ 16384
  rotate_left
  · have d : decide ((16384 : Int) < (n5 : Int)) = true := decide_eq_true (by omega)
    go_wp2
    go_ret
    exact ⟨rfl, Below.refl _ _⟩
  have dn5 : decide ((16384 : Int) < (n5 : Int)) = false := decide_eq_false (by omega)
  by_cases ln6 : n6 ≤ 16384
  rotate_left
  · have d : decide ((16384 : Int) < (n6 : Int)) = true := decide_eq_true (by omega)
    go_wp2
    go_ret
    exact ⟨rfl, Below.refl _ _⟩
  have dn6 : decide ((16384 : Int) < (n6 : Int)) = false := decide_eq_false (by omega)
  by_cases ln8 : n8 ≤ 32768
  rotate_left
  · have d : decide ((32768 : Int) < (n8 : Int)) = true := decide_eq_true (by omega)
    go_wp2
    go_ret
    exact ⟨rfl, Below.refl _ _⟩
  have dn8 : decide ((32768 : Int) < (n8 : Int)) = false := decide_eq_false (by omega)
  by_cases lT : 0 ≤ T
  rotate_left
  · have d : decide (T < 0) = true := decide_eq_true (by omega)
    go_wp2
    go_ret
    exact ⟨rfl, Below.refl _ _⟩
  have dT : decide (T < 0) = false := decide_eq_false (by omega)
  by_cases lT2 : T = (n1 : Int) - 1
  rotate_left
  · have d : (T != (n1 : Int) - 1) = true := by rw [bne_iff_ne]; exact lT2
    go_wp2
    go_ret
    exact ⟨rfl, Below.refl _ _⟩
  have dT2 : (T != (n1 : Int) - 1) = false := by simp [lT2]
  obtain ⟨t, rfl⟩ := Int.eq_ofNat_of_zero_le lT
  have lt : t ≤ 16384 := by omega
  clear lT lT2
  go_wp2_with fail
  refine (mvsgOK_any t a1 n1 c1 z1 a2 n2 c2 a3 n3 c3 wS a4 n4 c4 wI a5 n5 c5 it a6 n6 c6 _ R1.out R3.out R4.out R5.out B4.out B5.out (by omega) (by omega) (by omega) (by omega) (by omega) (by omega) (by omega)).mono ?_
  rintro e w1 ⟨b, rfl, hmv, hb1⟩
  cases b with
  | false =>
    clear hmv
    go_wp2
    go_ret
    exact ⟨rfl, hb1⟩
  | true =>
  have MV : Hid (Mv wS wI it n3 n4 n5 n6 t) := hmv rfl
  clear hmv
  by_cases lv : (t : Int) ≤ V
  rotate_left
  · have d : decide (V < (t : Int)) = true := decide_eq_true (by omega)
    go_wp2
    go_ret
    exact ⟨rfl, hb1⟩
  have dv : decide (V < (t : Int)) = false := decide_eq_false (by omega)
  by_cases lv2 : V < (t : Int) + 3 * (n4 : Int)
  rotate_left
  · have d : decide ((t : Int) + 3 * (n4 : Int) ≤ V) = true := decide_eq_true (by omega)
    go_wp2
    go_ret
    exact ⟨rfl, hb1⟩
  have dv2 : decide ((t : Int) + 3 * (n4 : Int) ≤ V) = false := decide_eq_false (by omega)
  have hP : 0 < n4 := by omega
  have f32 : ∀ (z : Nat → Int) (j : Nat), (ints .i32 z j).oneCell' = true := fun _ _ => rfl
  have f64 : ∀ (z : Nat → Int) (j : Nat), (ints .i64 z j).oneCell' = true := fun _ _ => rfl
  obtain rfl : n4 = n5 := MV.out.li.symm
  obtain rfl : n4 = n6 := MV.out.lh.symm
  have li3 : 1 ≤ n3 := MV.out.lw
  clear ln5 dn5 ln6 dn6
  have E1 : Hid (Below w.heap.size w w1) := hb1
  clear hb1
  go_wp2_with fail
  refine (cloneInts_any a1 n1 c1 _ _ (R1.out.later E1.out) (f64 z1) (by omega)).mono ?_
  rintro e w2 ⟨a1', c1', rfl, K1⟩
  have E2 : Hid (Below w.heap.size w w2) := below_next E1.out K1.1
  clear K1 E1 R1
  go_wp2_with fail
  refine (cloneI32_any a2 n2 c2 _ _ (R2.out.later E2.out) (f32 z2) (by omega)).mono ?_
  rintro e w3 ⟨a2', c2', rfl, K2⟩
  have E3 : Hid (Below w.heap.size w w3) := below_next E2.out K2.1
  clear K2 E2 R2
  go_wp2_with fail
  refine (cloneInts_any a3 n3 c3 _ _ (R3.out.later E3.out) (f64 wS) (by omega)).mono ?_
  rintro e w4 ⟨a3', c3', rfl, K3⟩
  have E4 : Hid (Below w.heap.size w w4) := below_next E3.out K3.1
  obtain ⟨rfl, rfl, X4⟩ := K3.some (by omega)
  clear K3 E3 R3
  go_wp2_with fail
  refine (cloneI32_any a4 n4 c4 _ _ (R4.out.later E4.out) (f32 wI) (by omega)).mono ?_
  rintro e w5 ⟨a4', c4', rfl, K4⟩
  have E5 : Hid (Below w.heap.size w w5) := below_next E4.out K4.1
  have X5 := X4.later K4.1
  obtain ⟨rfl, rfl, Y5⟩ := K4.some (by omega)
  clear K4 E4 R4
  go_wp2_with fail
  refine (cloneI32_any a5 n4 c5 _ _ (R5.out.later E5.out) (f32 it) (by omega)).mono ?_
  rintro e w6 ⟨a5', c5', rfl, K5⟩
  have E6 : Hid (Below w.heap.size w w6) := below_next E5.out K5.1
  have X6 := X5.later K5.1
  have Y6 := Y5.later K5.1
  obtain ⟨rfl, rfl, Z6⟩ := K5.some (by omega)
  clear K5 E5 R5 X5 Y5
  go_wp2_with fail
  refine (cloneBools_any a6 n4 c6 _ _ (R6.out.later E6.out) (fun _ => rfl) (by omega)).mono ?_
  rintro e w7 ⟨a6', c6', rfl, K6⟩
  have E7 : Hid (Below w.heap.size w w7) := below_next E6.out K6.1
  have X7 := X6.later K6.1
  have Y7 := Y6.later K6.1
  have Z7 := Z6.later K6.1
  obtain ⟨rfl, rfl, U7⟩ := K6.some (by omega)
  clear K6 E6 R6 X6 Y6 Z6
  go_wp2_with fail
  refine (cloneI32_any a8 n8 c8 _ _ (R8.out.later E7.out) (f32 z8) (by omega)).mono ?_
  rintro e w8 ⟨a8', c8', rfl, K8⟩
  have E8 : Hid (Below w.heap.size w w8) := below_next E7.out K8.1
  have X8 := X7.later K8.1
  have Y8 := Y7.later K8.1
  have Z8 := Z7.later K8.1
  have U8 := U7.later K8.1
  have kx := X7.lt
  have ky := Y7.lt
  have kz := Z7.lt
  have ku := U7.lt
  have ks := K8.1.size
  have hs7 := E7.out.size
  clear E7 R8 X7 Y7 Z7 U7
  go_wp2_with fail
  refine (mvsg_any t _ _ _ _ _ _ _ _ _ _ _ _ _ _ _ _ _ _ _).mono ?_
  rintro e w9 ⟨rfl, rfl⟩
  obtain ⟨k, p, hk, hp, hV⟩ : ∃ k p : Nat, k < 3 ∧ p < n4 ∧ V = (t : Int) + (k : Int) * (n4 : Int) + (p : Int) := by
    by_cases h1 : V < (t : Int) + (n4 : Int)
    · exact ⟨0, (V - (t : Int)).toNat, by omega, by omega, by omega⟩
    · by_cases h2 : V < (t : Int) + 2 * (n4 : Int)
      · exact ⟨1, (V - (t : Int) - (n4 : Int)).toNat, by omega, by omega, by omega⟩
      · exact ⟨2, (V - (t : Int) - 2 * (n4 : Int)).toNat, by omega, by omega, by omega⟩
  obtain ⟨x, hx, hx0, hx1⟩ := find_item (wS := wS) (p := p) MV.out.zero (n3 - 1) (by rw [MV.out.last]; omega)
  have hw0 : 0 ≤ wS x := by have := mono_le' MV.out.mono (Nat.zero_le x) (show x < n3 by omega); rw [MV.out.zero] at this; exact this
  have hx2 : wS (x + 1) ≤ (n4 : Int) := by have := mono_le' MV.out.mono (show x + 1 ≤ n3 - 1 by omega) (by omega); rw [MV.out.last] at this; exact this
  have HV : Hid (V = (t : Int) + (k : Int) * (n4 : Int) + (p : Int)) := hV
  have HA : Hid (∀ q : Nat, wS x ≤ (q : Int) → (q : Int) < wS (x + 1) → it q = (x : Int)) := MV.out.item x (by omega)
  have HP : Hid (it p = (x : Int)) := HA.out p hx0 hx1
  have WR : Hid (∀ q : Nat, q < n4 → 0 ≤ wI q ∧ wI q < (t : Int)) := MV.out.wr
  clear hV MV
  have G9 := Blk.new w8 (gcells t n3 n4 w3.heap.size 0 w4.heap.size 0 w5.heap.size 0 w6.heap.size 0 n3 n4 n4 n4 (.slice a1' n1 c1') (.slice a2' n2 c2')) 54
  have hbf : (a8' = none ∧ n8 = 0 ∧ c8' = 0) ∨ ∃ g, a8' = some ⟨g, 0, none⟩ ∧ w7.heap.size ≤ g ∧ c8' = n8 ∧ n8 ≤ maxLen ∧ Blk (w8.alloc (.cells (gcells t n3 n4 w3.heap.size 0 w4.heap.size 0 w5.heap.size 0 w6.heap.size 0 n3 n4 n4 n4 (.slice a1' n1 c1') (.slice a2' n2 c2')) 54)) g (rowOf (ints .i32 z8) n8) 21 := by
    rcases K8.2 with ⟨_, h1, h2, h3, _⟩ | ⟨_, h1, h2, h3⟩
    · exact .inl ⟨h1, h2, h3⟩
    · exact .inr ⟨_, h1, Nat.le_refl _, h2, by unfold maxLen; omega, h3.alloc _⟩
  have E9 : Hid (Below w.heap.size w (w8.alloc (.cells (gcells t n3 n4 w3.heap.size 0 w4.heap.size 0 w5.heap.size 0 w6.heap.size 0 n3 n4 n4 n4 (.slice a1' n1 c1') (.slice a2' n2 c2')) 54))) := below_alloc E8.out _
  have X9 := X8.alloc (.cells (gcells t n3 n4 w3.heap.size 0 w4.heap.size 0 w5.heap.size 0 w6.heap.size 0 n3 n4 n4 n4 (.slice a1' n1 c1') (.slice a2' n2 c2')) 54)
  have Y9 := Y8.alloc (.cells (gcells t n3 n4 w3.heap.size 0 w4.heap.size 0 w5.heap.size 0 w6.heap.size 0 n3 n4 n4 n4 (.slice a1' n1 c1') (.slice a2' n2 c2')) 54)
  have Z9 := Z8.alloc (.cells (gcells t n3 n4 w3.heap.size 0 w4.heap.size 0 w5.heap.size 0 w6.heap.size 0 n3 n4 n4 n4 (.slice a1' n1 c1') (.slice a2' n2 c2')) 54)
  have U9 := U8.alloc (.cells (gcells t n3 n4 w3.heap.size 0 w4.heap.size 0 w5.heap.size 0 w6.heap.size 0 n3 n4 n4 n4 (.slice a1' n1 c1') (.slice a2' n2 c2')) 54)
  clear X8 Y8 Z8 U8 K8 E8
  go_wp2_with fail
  refine (zzedges_any t n3 n4 w3.heap.size 0 w4.heap.size 0 w5.heap.size 0 w6.heap.size 0 n3 n4 n4 n4 w8.heap.size w7.heap.size (.slice a1' n1 c1') (.slice a2' n2 c2') wS wI it hr V k p x a8' n8 c8' (ints .i32 z8) _ G9 (row_cells X9) (row_cells Y9) (row_cells Z9) (row_cells U9) kx ky kz ku (by simp; omega) hbf lt ln3 ln4 hk HV.out hp (by omega) HP.out hx0 hx1 hx2 hw0 HA.out B4.out).mono ?_
  rintro e w10 ⟨ag, ng, cg, zg, rfl, hg, hng, hgood, hg32, hb10⟩
  have E10 : Hid (Below w.heap.size w w10) := E9.out.trans (hb10.mono hs7)
  have X10 := X9.below hb10 kx
  have Y10 := Y9.below hb10 ky
  have Z10 := Z9.below hb10 kz
  have HG : Hid (Rw w10 ag ng cg (ints .i32 zg)) := hg
  have GD : Hid (∀ j, j < ng → Good t n4 wS wI it k p x (zg j)) := hgood
  have G32 : Hid (I32 zg) := hg32
  have dg : decide ((2 : Int) < (ng : Int)) = false := decide_eq_false (by omega)
  clear E9 X9 Y9 Z9 U9 hb10 hg hgood hg32 G9 hbf
  go_wp2_with fail
  refine (place_any t n4 k p V _ lt ln4 hk hp HV.out).mono ?_
  rintro e w11 ⟨rfl, hw11⟩
  subst hw11
  have cz : w11.cell? ⟨w5.heap.size, p, none⟩ = some (.int .i32 (x : Int)) := by rw [Z10.cell, rowOf_get _ hp]; show some (Value.int .i32 (it p)) = _; rw [HP.out]
  have cx : w11.cell? ⟨w3.heap.size, x, none⟩ = some (.int .i64 (wS x)) := by rw [X10.cell, rowOf_get _ (by omega)]
  have cx1 : w11.cell? ⟨w3.heap.size, x + 1, none⟩ = some (.int .i64 (wS (x + 1))) := by rw [X10.cell, rowOf_get _ (by omega)]
  have k1 : (p : Int) < (n4 : Int) := by omega
  have k2 : (x : Int) < (n3 : Int) := by omega
  have k3 : (x : Int) + 1 < (n3 : Int) := by omega
  have k4 : (x : Int) ≤ 16384 := by omega
  have et : ((x : Int) + 1).toNat = x + 1 := by omega
  go_wp2
  go_loop [27] (fun s => ∃ i : Nat, i ≤ ng ∧ s = .int .i64 i) (fun s => ng - (intOf s).toNat)
  case atStart => exact ⟨0, Nat.zero_le _, rfl⟩
  case round =>
    obtain ⟨i, hi, rfl⟩ := hrel
    by_cases hlt : i < ng
    rotate_left
    · go_wp2
      go_ret
      exact ⟨rfl, E10.out⟩
    obtain ⟨bg, og, rfl, _, cg0⟩ := HG.out.plain (by omega)
    have cgi := cg0 i hlt
    have bgi := G32.out i
    have kgi : (i : Int) < (ng : Int) := by omega
    clear cg0
    rcases GD.out i hlt with ⟨q0, hq0, hq1, hq2⟩ | ⟨q, hq0, hq1, hq2, hq3⟩
    · have hwr := WR.out q0 (by omega)
      rw [hq2] at hwr
      have d1 : decide (zg i < 0) = false := decide_eq_false (by omega)
      have d2 : decide ((t : Int) + 3 * (n4 : Int) ≤ zg i) = false := decide_eq_false (by omega)
      have d3 : decide (zg i < (t : Int)) = true := decide_eq_true (by omega)
      have HQ : Hid (wI q0 = zg i) := hq2
      clear hq2 cz cx cx1
      go_wp2
      go_loop [29, 30] (fun f s => ∃ (q1 : Nat) (fb : Bool), wS x ≤ (q1 : Int) ∧ (q1 : Int) ≤ wS (x + 1) ∧ s = .int .i64 q1 ∧ f = .bool fb ∧ (q0 < q1 → fb = true)) (fun _ s => (wS (x + 1) - intOf s).toNat)
      case atStart => exact ⟨(wS x).toNat, false, by omega, by omega, by rw [Int.toNat_of_nonneg hw0], rfl, fun h => by omega⟩
      case round =>
        obtain ⟨q1, fb, g1, g2, rfl, rfl, g3⟩ := hrel
        have G3 : Hid (q0 < q1 → fb = true) := g3
        clear g3
        by_cases hq : (q1 : Int) < wS (x + 1)
        · have cq : w11.cell? ⟨w4.heap.size, q1, none⟩ = some (.int .i32 (wI q1)) := by rw [Y10.cell, rowOf_get _ (by omega)]
          have bq := B4.out q1
          have kq : (q1 : Int) < (n4 : Int) := by omega
          by_cases hh : wI q1 = zg i
          · have dh : (wI q1 == zg i) = true := by simp [hh]
            clear hh
            go_wp2
            go_round
            case rel => exact ⟨q1 + 1, true, by omega, by omega, by go_num, rfl, fun _ => rfl⟩
            case measure => simp [intOf]; omega
          · have dh : (wI q1 == zg i) = false := by simp [hh]
            have HH : Hid (¬ wI q1 = zg i) := hh
            clear hh
            go_wp2
            go_round
            case rel => exact ⟨q1 + 1, fb, by omega, by omega, by go_num, rfl, fun h => G3.out (by rcases Nat.lt_succ_iff_lt_or_eq.1 h with h | h; exact h; subst h; exact absurd HQ.out HH.out)⟩
            case measure => simp [intOf]; omega
        · obtain rfl : fb = true := G3.out (by omega)
          go_wp2
          go_round
          case rel => exact ⟨i + 1, by omega, by go_num⟩
          case measure => simp [intOf]; omega
    · have hu := hq0
      have kk : (k : Int) * (n4 : Int) + (q : Int) < 3 * (n4 : Int) ∧ 0 ≤ (k : Int) * (n4 : Int) := by
        have hk' : k = 0 ∨ k = 1 ∨ k = 2 := by omega
        rcases hk' with rfl | rfl | rfl <;> constructor <;> omega
      have d1 : decide (zg i < 0) = false := decide_eq_false (by omega)
      have d2 : decide ((t : Int) + 3 * (n4 : Int) ≤ zg i) = false := decide_eq_false (by omega)
      have d3 : decide (zg i < (t : Int)) = false := decide_eq_false (by omega)
      have HU : Hid (zg i = (t : Int) + (k : Int) * (n4 : Int) + (q : Int)) := hu
      have cq : w11.cell? ⟨w5.heap.size, q, none⟩ = some (.int .i32 (x : Int)) := by rw [Z10.cell, rowOf_get _ hq2]; show some (Value.int .i32 (it q)) = _; rw [hq3]
      have kq : (q : Int) < (n4 : Int) := by omega
      clear hq0 hu hq3 kk cz cx cx1
      go_wp2_with fail
      refine (place_any t n4 k q (zg i) _ lt ln4 hk hq2 HU.out).mono ?_
      rintro e w12 ⟨rfl, hw12⟩
      subst hw12
      go_wp2
      go_round
      case rel => exact ⟨i + 1, by omega, by go_num⟩
      case measure => simp [intOf]; omega

end Go.Proofs.Qxb6602948a

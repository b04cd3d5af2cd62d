import Derived.Test.Qxb6602948aEdges
namespace Go.Proofs.Qxb6602948a
open Go.RowKit Go.Kx
set_option linter.unusedVariables false

theorem cell_two_row (w : World) (x y : Value) (t : TypeId) : ∀ j u, [x, y][j]? = some u → (w.alloc (.cells #[x, y] t)).cell? ((⟨w.heap.size, 0, none⟩ : Addr).add j) = some u := by
  intro j u hj
  rw [Addr.add_lit, World.cell?_alloc_at _ _ _ _ rfl, Nat.zero_add]
  match j, hj with
  | 0, hj => simpa using hj
  | 1, hj => simpa using hj

theorem tree_any (G T Lw P bW oW cW bw ow cw x i p : Nat) (wS wI it : Nat → Int) (w : World) (h0 : w.cell? ⟨G, 0, none⟩ = some (.int .i64 T)) (h3 : w.cell? ⟨G, 3, none⟩ = some (.slice (some ⟨bW, oW, none⟩) Lw cW)) (h4 : w.cell? ⟨G, 4, none⟩ = some (.slice (some ⟨bw, ow, none⟩) P cw))
    (c0 : w.cell? ⟨bW, oW + x, none⟩ = some (.int .i64 (wS x))) (c1 : w.cell? ⟨bW, oW + (x + 1), none⟩ = some (.int .i64 (wS (x + 1)))) (hc : ∀ q, q < P → w.cell? ⟨bw, ow + q, none⟩ = some (.int .i32 (wI q))) (hx : x + 1 < Lw) (hLw : Lw ≤ 16384) (hP : P ≤ 16384) (hT : T ≤ 16384)
    (hw0 : 0 ≤ wS x) (hw1 : wS x ≤ wS (x + 1)) (hw2 : wS (x + 1) ≤ (P : Int)) (bw32 : I32 wI) (hall : ∀ q : Nat, wS x ≤ (q : Int) → (q : Int) < wS (x + 1) → it q = (x : Int))
    (hi1 : (p : Int) - wS x < (i : Int)) (hi2 : (i : Int) < 2 * (wS (x + 1) - wS x)) (I : Int) (hI : I = (i : Int)) :
    Calls Try.prog 37 #[.pointer (some ⟨G, 0, none⟩), .int .i64 x, .int .i64 I] w fun e w' => ∃ u, e = .returned (.int .i64 u) ∧ Good T P wS wI it 2 p x u ∧ (-2147483648 ≤ u ∧ u ≤ 2147483647) ∧ ∃ n, w' = w.drewN n := by
  by_cases hl : wS (x + 1) - wS x ≤ (i : Int)
  · obtain ⟨q, hq⟩ : ∃ q : Nat, wS x + (i : Int) - (wS (x + 1) - wS x) = (q : Int) := ⟨(wS x + (i : Int) - (wS (x + 1) - wS x)).toNat, by omega⟩
    refine (tree_leaf G T Lw P bW oW cW bw ow cw x i wS wI w h3 h4 c0 c1 hx hLw hP (by omega) q hq (by omega) (hc q (by omega)) (bw32 q) hw0 hw1 hw2 hl I hI).mono ?_
    rintro e w' ⟨rfl, rfl⟩
    exact ⟨_, rfl, .inl ⟨q, by omega, by omega, rfl⟩, bw32 q, 0, rfl⟩
  · refine (tree_inner G T Lw P bW oW cW bw ow cw x i wS w h0 h3 h4 c0 c1 hx hLw hP hT (by omega) hw0 hw1 hw2 (by omega) I hI).mono ?_
    rintro e w' ⟨rfl, hn⟩
    exact ⟨_, rfl, .inr ⟨(wS x + (i : Int)).toNat, by omega, by omega, by omega, hall _ (by omega) (by omega)⟩, by omega, hn⟩

set_option maxRecDepth 100000 in
set_option maxHeartbeats 1000000 in
theorem edges1 (T Lw P bW oW bw ow bi oi bh oh cW cw ci ch G base : Nat) (so sI : Value) (wS wI it : Nat → Int) (hr : Nat → Bool) (v : Int) (p x : Nat) (ab : Option Addr) (nb cb : Nat) (fb : Nat → Value) (w : World)
    (hG : Blk w G (gcells T Lw P bW oW bw ow bi oi bh oh cW cw ci ch so sI) 54)
    (cW0 : ∀ j, j < Lw → w.cell? ⟨bW, oW + j, none⟩ = some (.int .i64 (wS j))) (cw0 : ∀ j, j < P → w.cell? ⟨bw, ow + j, none⟩ = some (.int .i32 (wI j)))
    (ci0 : ∀ j, j < P → w.cell? ⟨bi, oi + j, none⟩ = some (.int .i32 (it j))) (ch0 : ∀ j, j < P → w.cell? ⟨bh, oh + j, none⟩ = some (.bool (hr j)))
    (lW : bW < base) (lw : bw < base) (li : bi < base) (lh : bh < base) (hbase : base ≤ w.heap.size)
    (hbuf : (ab = none ∧ nb = 0 ∧ cb = 0) ∨ ∃ g, ab = some ⟨g, 0, none⟩ ∧ base ≤ g ∧ cb = nb ∧ nb ≤ maxLen ∧ Blk w g (rowOf fb nb) 21)
    (hT : T ≤ 16384) (hLw : Lw ≤ 16384) (hP : P ≤ 16384) (hv0 : (T : Int) ≤ v) (hv1 : v < (T : Int) + 3 * (P : Int)) (hm : (v - (T : Int)) % (P : Int) = (p : Int)) (hd : (v - (T : Int)) / (P : Int) = 1)
    (hp : p < P) (hx : x + 1 < Lw) (hit : it p = (x : Int)) (hx0 : wS x ≤ (p : Int)) (hx1 : (p : Int) < wS (x + 1)) (hx2 : wS (x + 1) ≤ (P : Int)) (hw0 : 0 ≤ wS x) (hall : ∀ q : Nat, wS x ≤ (q : Int) → (q : Int) < wS (x + 1) → it q = (x : Int)) (bw32 : I32 wI) :
    Calls Try.prog 28 #[.pointer (some ⟨G, 0, none⟩), .int .i64 v, .slice ab nb cb] w fun e w' => Got base (Good T P wS wI it 1 p x) w e w' := by
  obtain ⟨v0, hsl, hown⟩ := slice_zero base ab nb cb fb w hbuf
  have g := hG.cell
  have c1 := ci0 p hp
  rw [hit] at c1
  have c2 := cW0 (x + 1) hx
  have c3 := cW0 x (by omega)
  have b1 : (p : Int) < (P : Int) := by omega
  have b2 : (x : Int) + 1 < (Lw : Int) := by omega
  have CW : Hid (∀ j, j < Lw → w.cell? ⟨bW, oW + j, none⟩ = some (.int .i64 (wS j))) := cW0
  have Cw : Hid (∀ j, j < P → w.cell? ⟨bw, ow + j, none⟩ = some (.int .i32 (wI j))) := cw0
  have Ci : Hid (∀ j, j < P → w.cell? ⟨bi, oi + j, none⟩ = some (.int .i32 (it j))) := ci0
  have Ch : Hid (∀ j, j < P → w.cell? ⟨bh, oh + j, none⟩ = some (.bool (hr j))) := ch0
  have HA : Hid (∀ q : Nat, wS x ≤ (q : Int) → (q : Int) < wS (x + 1) → it q = (x : Int)) := hall
  have B32 : Hid (I32 wI) := bw32
  clear cW0 cw0 ci0 ch0 hbuf hall bw32
  have HI : Hid (it p = (x : Int)) := hit
  have vlt : decide (v < (T : Int)) = false := decide_eq_false (by omega)
  clear hit
  have e32 : IntKind.i32.wrap ((x : Int) + 1) = (x : Int) + 1 := by rw [IntKind.wrap_i32]; omega
  have et : ((x : Int) + 1).toNat = x + 1 := by omega
  obtain ⟨i0, hi, hz0, hz1, hz2⟩ := info_parts info21
  have HOW : Hid (w.ownsRow base 21 1 v0 0 []) := hown
  clear hown
  have c4 := Cw.out p hp
  have b5 := B32.out p
  have D1 : Hid (Good T P wS wI it 1 p x (wI p)) := .inl ⟨p, by omega, by omega, rfl⟩
  go_enter Try.func28, Try.ntmps28
  go_wp2
  try rw [hm]
  go_quiet (fail)
  go_wp2_with (at_builtin; refine wpList_append_own _ rfl (.tmp 143) (.tmp 152) 23 rfl base 21 i0 (.int .i32 0) 1 4 Try.underlying23 hi hz0 hz1 hz2 rfl (by decide) _ _ _ rfl (HOW.out.alloc _) ⟨w.heap.size, 0, none⟩ 1 1 [.int .i32 (wI p)] rfl rfl ?c1 ?c2 ?c3 ?c4 ?c5 ?_)
  case c1 => exact cell_one_new _ _ _
  case c2 => intro u hu; simp at hu; subst hu; rfl
  case c3 => unfold maxLen; omega
  case c4 => omega
  case c5 => simp; omega
  intro v1 w1 hown1 hg1 _
  have O1 : Hid (w1.ownsRow base 21 1 v1 1 [.int .i32 (wI p)]) := hown1
  have HD : (w.drewN nq).ownsRow base 21 1 v0 0 [] := HOW.out
  have G1 := own_keepG (HD.alloc _) ((hG.drewN nq).alloc _) hg1
  have Bel1 := own_below (HD.alloc _) ((below_drewN (Below.refl base w) nq).alloc hbase _) (by simp; omega) hg1
  have g1 := G1.cell
  have hb1 : base ≤ w1.heap.size := by have := Bel1.size; omega
  clear HD hown1 hg1 g c1 c2 c3 hG hsl
  by_cases hend : (p : Int) + 1 < wS (x + 1)
  · have D2 : Hid (Good T P wS wI it 1 p x ((T : Int) + (P : Int) + ((p : Int) + 1))) := .inr ⟨p + 1, by omega, by omega, by omega, HA.out (p + 1) (by omega) (by omega)⟩
    go_wp2_with fail
    refine (later_any G T p P cw (some ⟨bw, ow, none⟩) _ (by exact g1 0) (by exact g1 4) hT hP (by omega)).mono ?_
    rintro e w' ⟨rfl, n2, rfl⟩
    have cv : IntKind.i32.wrap ((T : Int) + (P : Int) + ((p : Int) + 1)) = (T : Int) + (P : Int) + ((p : Int) + 1) := by rw [IntKind.wrap_i32]; omega
    have O1d : Hid ((w1.drewN n2).ownsRow base 21 1 v1 1 [.int .i32 (wI p)]) := O1.out
    go_wp2_with (at_builtin; refine wpList_append_own _ rfl (.tmp 158) (.tmp 164) 23 rfl base 21 i0 (.int .i32 0) 1 4 Try.underlying23 hi hz0 hz1 hz2 rfl (by decide) _ _ _ rfl (O1d.out.alloc _) ⟨w1.heap.size, 0, none⟩ 1 1 [.int .i32 ((T : Int) + (P : Int) + ((p : Int) + 1))] rfl rfl ?d1 ?d2 ?d3 ?d4 ?d5 ?_)
    case d1 => exact cell_one_new _ _ _
    case d2 => intro u hu; simp at hu; subst hu; rfl
    case d3 => unfold maxLen; omega
    case d4 => omega
    case d5 => simp; omega
    intro v2 w2 hown2 hg2 _
    have Bel2 := own_below (O1d.out.alloc _) ((below_drewN Bel1 n2).alloc hb1 _) (by simp; omega) hg2
    have O2 : Hid (w2.ownsRow base 21 1 v2 2 [.int .i32 (wI p), .int .i32 ((T : Int) + (P : Int) + ((p : Int) + 1))]) := hown2
    clear hown2 hg2 O1 O1d g1
    go_wp2
    go_ret
    exact ⟨v2, [_, _], rfl, O2.out, by simp, by simp; exact ⟨⟨D1.out, by omega, by omega⟩, D2.out, by omega, by omega⟩, Bel2⟩
  · go_wp2
    go_ret
    exact ⟨v1, [_], rfl, O1.out, by simp, by simp; exact ⟨D1.out, by omega, by omega⟩, Bel1⟩

set_option maxRecDepth 100000 in
set_option maxHeartbeats 1000000 in
theorem edges2 (T Lw P bW oW bw ow bi oi bh oh cW cw ci ch G base : Nat) (so sI : Value) (wS wI it : Nat → Int) (hr : Nat → Bool) (v : Int) (p x : Nat) (ab : Option Addr) (nb cb : Nat) (fb : Nat → Value) (w : World)
    (hG : Blk w G (gcells T Lw P bW oW bw ow bi oi bh oh cW cw ci ch so sI) 54)
    (cW0 : ∀ j, j < Lw → w.cell? ⟨bW, oW + j, none⟩ = some (.int .i64 (wS j))) (cw0 : ∀ j, j < P → w.cell? ⟨bw, ow + j, none⟩ = some (.int .i32 (wI j)))
    (ci0 : ∀ j, j < P → w.cell? ⟨bi, oi + j, none⟩ = some (.int .i32 (it j))) (ch0 : ∀ j, j < P → w.cell? ⟨bh, oh + j, none⟩ = some (.bool (hr j)))
    (lW : bW < base) (lw : bw < base) (li : bi < base) (lh : bh < base) (hbase : base ≤ w.heap.size)
    (hbuf : (ab = none ∧ nb = 0 ∧ cb = 0) ∨ ∃ g, ab = some ⟨g, 0, none⟩ ∧ base ≤ g ∧ cb = nb ∧ nb ≤ maxLen ∧ Blk w g (rowOf fb nb) 21)
    (hT : T ≤ 16384) (hLw : Lw ≤ 16384) (hP : P ≤ 16384) (hv0 : (T : Int) ≤ v) (hv1 : v < (T : Int) + 3 * (P : Int)) (hm : (v - (T : Int)) % (P : Int) = (p : Int)) (hd : (v - (T : Int)) / (P : Int) = 2)
    (hp : p < P) (hx : x + 1 < Lw) (hit : it p = (x : Int)) (hx0 : wS x ≤ (p : Int)) (hx1 : (p : Int) < wS (x + 1)) (hx2 : wS (x + 1) ≤ (P : Int)) (hw0 : 0 ≤ wS x) (hall : ∀ q : Nat, wS x ≤ (q : Int) → (q : Int) < wS (x + 1) → it q = (x : Int)) (bw32 : I32 wI) :
    Calls Try.prog 28 #[.pointer (some ⟨G, 0, none⟩), .int .i64 v, .slice ab nb cb] w fun e w' => Got base (Good T P wS wI it 2 p x) w e w' := by
  obtain ⟨v0, hsl, hown⟩ := slice_zero base ab nb cb fb w hbuf
  have g := hG.cell
  have c1 := ci0 p hp
  rw [hit] at c1
  have c2 := cW0 (x + 1) hx
  have c3 := cW0 x (by omega)
  have b1 : (p : Int) < (P : Int) := by omega
  have b2 : (x : Int) + 1 < (Lw : Int) := by omega
  have CW : Hid (∀ j, j < Lw → w.cell? ⟨bW, oW + j, none⟩ = some (.int .i64 (wS j))) := cW0
  have Cw : Hid (∀ j, j < P → w.cell? ⟨bw, ow + j, none⟩ = some (.int .i32 (wI j))) := cw0
  have Ci : Hid (∀ j, j < P → w.cell? ⟨bi, oi + j, none⟩ = some (.int .i32 (it j))) := ci0
  have Ch : Hid (∀ j, j < P → w.cell? ⟨bh, oh + j, none⟩ = some (.bool (hr j))) := ch0
  have HA : Hid (∀ q : Nat, wS x ≤ (q : Int) → (q : Int) < wS (x + 1) → it q = (x : Int)) := hall
  have B32 : Hid (I32 wI) := bw32
  clear cW0 cw0 ci0 ch0 hbuf hall bw32
  have HI : Hid (it p = (x : Int)) := hit
  have vlt : decide (v < (T : Int)) = false := decide_eq_false (by omega)
  clear hit
  have e32 : IntKind.i32.wrap ((x : Int) + 1) = (x : Int) + 1 := by rw [IntKind.wrap_i32]; omega
  have et : ((x : Int) + 1).toNat = x + 1 := by omega
  obtain ⟨i0, hi, hz0, hz1, hz2⟩ := info_parts info21
  have HOW : Hid (w.ownsRow base 21 1 v0 0 []) := hown
  clear hown
  by_cases hgt : wS x < (p : Int)
  · obtain ⟨i1, hi1⟩ : ∃ i1 : Nat, (p : Int) - wS x = (i1 : Int) := ⟨((p : Int) - wS x).toNat, by omega⟩
    go_enter Try.func28, Try.ntmps28
    go_wp2
    try rw [hm]
    go_quiet (fail)
    go_wp2_with fail
    refine (tree_any G T Lw P bW oW cW bw ow cw x (2 * i1) p wS wI it _ (by exact g 0) (by exact g 3) (by exact g 4) (by exact c3) (by exact c2) (by exact Cw.out) hx hLw hP hT hw0 (by omega) hx2 B32.out HA.out (by omega) (by omega) _ (by omega)).mono ?_
    rintro e w' ⟨u1, rfl, gd1, bu1, n1, rfl⟩
    have D1 : Hid (Good T P wS wI it 2 p x u1) := gd1
    have q1 : IntKind.i32.wrap u1 = u1 := by rw [IntKind.wrap_i32]; omega
    clear gd1
    go_wp2_with fail
    refine (tree_any G T Lw P bW oW cW bw ow cw x (2 * i1 + 1) p wS wI it _ (by exact g 0) (by exact g 3) (by exact g 4) (by exact c3) (by exact c2) (by exact Cw.out) hx hLw hP hT hw0 (by omega) hx2 B32.out HA.out (by omega) (by omega) _ (by omega)).mono ?_
    rintro e w' ⟨u2, rfl, gd2, bu2, n2, rfl⟩
    have D2 : Hid (Good T P wS wI it 2 p x u2) := gd2
    have q2 : IntKind.i32.wrap u2 = u2 := by rw [IntKind.wrap_i32]; omega
    clear gd2 g c1 c2 c3 hsl
    go_wp2_with (at_builtin; refine wpList_append_own _ rfl (.tmp 91) (.tmp 105) 23 rfl base 21 i0 (.int .i32 0) 1 4 Try.underlying23 hi hz0 hz1 hz2 rfl (by decide) _ _ _ rfl (HOW.out.alloc _) ⟨w.heap.size, 0, none⟩ 2 2 [.int .i32 u1, .int .i32 u2] rfl rfl ?d1 ?d2 ?d3 ?d4 ?d5 ?_)
    case d1 => exact cell_two_row _ _ _ _
    case d2 => intro u hu; simp at hu; rcases hu with rfl | rfl <;> rfl
    case d3 => unfold maxLen; omega
    case d4 => omega
    case d5 => simp; omega
    intro v2 w2 hown2 hg2 _
    have HD : (w.drewN (nq + n1 + n2)).ownsRow base 21 1 v0 0 [] := HOW.out
    have Bel2 := own_below (HD.alloc _) ((below_drewN (Below.refl base w) (nq + n1 + n2)).alloc hbase _) (by simp; omega) hg2
    have O2 : Hid (w2.ownsRow base 21 1 v2 2 [.int .i32 u1, .int .i32 u2]) := hown2
    clear HD hown2 hg2 hG
    go_wp2
    go_ret
    exact ⟨v2, [_, _], rfl, O2.out, by simp, by simp; exact ⟨⟨D1.out, by omega, by omega⟩, D2.out, by omega, by omega⟩, Bel2⟩
  · go_enter Try.func28, Try.ntmps28
    go_wp2
    try rw [hm]
    go_quiet (fail)
    go_wp2
    go_ret
    exact ⟨v0, [], rfl, HOW.out, by simp, by simp, below_drewN (Below.refl _ _) _⟩

end Go.Proofs.Qxb6602948a

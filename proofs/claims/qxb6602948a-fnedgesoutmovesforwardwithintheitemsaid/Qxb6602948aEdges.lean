import Derived.Test.Qxb6602948aMv
namespace Go.Proofs.Qxb6602948a
open Go.RowKit Go.Kx
set_option linter.unusedVariables false

/-- the graph in memory -/
abbrev gcells (T Lw P : Nat) (bW oW bw ow bi oi bh oh cW cw ci ch : Nat) (so sI : Value) : Array Value :=
  #[.int .i64 T, so, sI, .slice (some ⟨bW, oW, none⟩) Lw cW, .slice (some ⟨bw, ow, none⟩) P cw, .slice (some ⟨bi, oi, none⟩) P ci, .slice none 0 0, .slice (some ⟨bh, oh, none⟩) P ch, .slice none 0 0]

theorem slice_zero (base : Nat) (a : Option Addr) (n c : Nat) (f : Nat → Value) (w : World) (h : (a = none ∧ n = 0 ∧ c = 0) ∨ ∃ g, a = some ⟨g, 0, none⟩ ∧ base ≤ g ∧ c = n ∧ n ≤ maxLen ∧ Blk w g (rowOf f n) 21) :
    ∃ v0, (∀ W, (Instr.slice 23 (.slice a n c) none (some (.int .i64 0)) none).run Try.prog W = .ok v0 W) ∧ w.ownsRow base 21 1 v0 0 [] := by
  have hs : ∀ W : World, (sizeOf (Try.prog.elem 23)).run Try.prog W = .ok 1 W := fun W => by kernel_rfl
  have hr : ∀ W : World, (Instr.slice 23 (.slice a n c) none (some (.int .i64 0)) none).run Try.prog W = .ok (sliced a 0 0 c 1) W := by
    intro W
    rw [run_slice_h (P := Try.prog) W 23 a n c Try.underlying23 .i64 0 (by omega) (by omega), hs W]
    rfl
  rcases h with ⟨rfl, rfl, rfl⟩ | ⟨g, rfl, hg, rfl, hn, hb⟩
  · refine ⟨_, hr, ?_⟩
    exact World.ownsRow_nil _ _ _ _
  · refine ⟨_, hr, ?_⟩
    have e : sliced (some ⟨g, 0, none⟩) 0 0 c 1 = .slice (some ⟨g, 0, none⟩) 0 c := by simp [sliced, Addr.add]
    rw [e]
    exact ⟨rfl, .inr ⟨g, c, _, rfl, hg, hb, Nat.zero_le _, hn, by simp [rowOf_size], by simp⟩⟩

/-- where an edge may go -/
def Good (T P : Nat) (wS wI it : Nat → Int) (kind : Int) (p x : Nat) (u : Int) : Prop :=
  (∃ q : Nat, wS x ≤ (q : Int) ∧ (q : Int) < wS (x + 1) ∧ wI q = u) ∨ ∃ q : Nat, u = (T : Int) + kind * (P : Int) + (q : Int) ∧ p < q ∧ q < P ∧ it q = (x : Int)

/-- what edgesOut hands back: a slice of its own, at most two numbers, each of them Q -/
def Got (base : Nat) (Q : Int → Prop) (w : World) (e : Ending) (w' : World) : Prop :=
  ∃ (v' : Value) (es : List Int), e = .returned v' ∧ w'.ownsRow base 21 1 v' es.length (es.map (Value.int .i32)) ∧ es.length ≤ 2 ∧ (∀ u ∈ es, Q u ∧ -2147483648 ≤ u ∧ u ≤ 2147483647) ∧ Below base w w'

theorem earlier_any (G T q : Nat) (w : World) (h : w.cell? ⟨G, 0, none⟩ = some (.int .i64 T)) (hT : T ≤ 16384) (hq : q ≤ 16384) :
    Calls Try.prog 35 #[.pointer (some ⟨G, 0, none⟩), .int .i64 ((q : Int) + 1)] w fun e w' => e = .returned (.int .i64 ((T : Int) + ((q : Int) + 1))) ∧ w' = w := by
  go_enter Try.func35, Try.ntmps35
  go_wp2
  go_ret
  exact ⟨rfl, rfl⟩

theorem later_any (G T q P cw : Nat) (aw : Option Addr) (w : World) (h : w.cell? ⟨G, 0, none⟩ = some (.int .i64 T)) (h4 : w.cell? ⟨G, 4, none⟩ = some (.slice aw P cw)) (hT : T ≤ 16384) (hP : P ≤ 16384) (hq : q ≤ 16384) :
    Calls Try.prog 36 #[.pointer (some ⟨G, 0, none⟩), .int .i64 ((q : Int) + 1)] w fun e w' => e = .returned (.int .i64 ((T : Int) + (P : Int) + ((q : Int) + 1))) ∧ ∃ n, w' = w.drewN n := by
  have e1 : IntKind.i64.wrap ((T : Int) + (P : Int)) = (T : Int) + (P : Int) := by rw [IntKind.wrap_i64]; omega
  have e2 : IntKind.i64.wrap ((T : Int) + (P : Int) + ((q : Int) + 1)) = (T : Int) + (P : Int) + ((q : Int) + 1) := by rw [IntKind.wrap_i64]; omega
  go_enter Try.func36, Try.ntmps36
  go_wp2
  go_quiet (fail)
  go_wp2
  go_ret
  exact ⟨rfl, _, rfl⟩

theorem tree_leaf (G T Lw P bW oW cW bw ow cw x i : Nat) (wS wI : Nat → Int) (w : World) (h3 : w.cell? ⟨G, 3, none⟩ = some (.slice (some ⟨bW, oW, none⟩) Lw cW)) (h4 : w.cell? ⟨G, 4, none⟩ = some (.slice (some ⟨bw, ow, none⟩) P cw))
    (c0 : w.cell? ⟨bW, oW + x, none⟩ = some (.int .i64 (wS x))) (c1 : w.cell? ⟨bW, oW + (x + 1), none⟩ = some (.int .i64 (wS (x + 1)))) (hx : x + 1 < Lw) (hLw : Lw ≤ 16384) (hP : P ≤ 16384) (hi : i ≤ 65536)
    (q : Nat) (hq : wS x + (i : Int) - (wS (x + 1) - wS x) = (q : Int)) (hq1 : q < P) (c2 : w.cell? ⟨bw, ow + q, none⟩ = some (.int .i32 (wI q))) (b2 : -2147483648 ≤ wI q ∧ wI q ≤ 2147483647)
    (hw0 : 0 ≤ wS x) (hw1 : wS x ≤ wS (x + 1)) (hw2 : wS (x + 1) ≤ (P : Int)) (hl : wS (x + 1) - wS x ≤ (i : Int)) (I : Int) (hI : I = (i : Int)) :
    Calls Try.prog 37 #[.pointer (some ⟨G, 0, none⟩), .int .i64 x, .int .i64 I] w fun e w' => e = .returned (.int .i64 (wI q)) ∧ w' = w := by
  subst hI
  have k1 : (x : Int) < (Lw : Int) := by omega
  have k2 : (x : Int) + 1 < (Lw : Int) := by omega
  have k3 : (q : Int) < (P : Int) := by omega
  go_enter Try.func37, Try.ntmps37
  go_wp2
  go_ret
  exact ⟨rfl, rfl⟩

theorem tree_inner (G T Lw P bW oW cW bw ow cw x i : Nat) (wS : Nat → Int) (w : World) (h0 : w.cell? ⟨G, 0, none⟩ = some (.int .i64 T)) (h3 : w.cell? ⟨G, 3, none⟩ = some (.slice (some ⟨bW, oW, none⟩) Lw cW)) (h4 : w.cell? ⟨G, 4, none⟩ = some (.slice (some ⟨bw, ow, none⟩) P cw))
    (c0 : w.cell? ⟨bW, oW + x, none⟩ = some (.int .i64 (wS x))) (c1 : w.cell? ⟨bW, oW + (x + 1), none⟩ = some (.int .i64 (wS (x + 1)))) (hx : x + 1 < Lw) (hLw : Lw ≤ 16384) (hP : P ≤ 16384) (hT : T ≤ 16384) (hi : i ≤ 65536)
    (hw0 : 0 ≤ wS x) (hw1 : wS x ≤ wS (x + 1)) (hw2 : wS (x + 1) ≤ (P : Int)) (hl : (i : Int) < wS (x + 1) - wS x) (I : Int) (hI : I = (i : Int)) :
    Calls Try.prog 37 #[.pointer (some ⟨G, 0, none⟩), .int .i64 x, .int .i64 I] w fun e w' => e = .returned (.int .i64 ((T : Int) + 2 * (P : Int) + wS x + (i : Int))) ∧ ∃ n, w' = w.drewN n := by
  subst hI
  have k1 : (x : Int) < (Lw : Int) := by omega
  have k2 : (x : Int) + 1 < (Lw : Int) := by omega
  have e0 : IntKind.i64.wrap (2 * (P : Int)) = 2 * (P : Int) := by rw [IntKind.wrap_i64]; omega
  have e1 : IntKind.i64.wrap ((T : Int) + 2 * (P : Int)) = (T : Int) + 2 * (P : Int) := by rw [IntKind.wrap_i64]; omega
  have e2 : IntKind.i64.wrap ((T : Int) + 2 * (P : Int) + wS x) = (T : Int) + 2 * (P : Int) + wS x := by rw [IntKind.wrap_i64]; omega
  have e3 : IntKind.i64.wrap ((T : Int) + 2 * (P : Int) + wS x + (i : Int)) = (T : Int) + 2 * (P : Int) + wS x + (i : Int) := by rw [IntKind.wrap_i64]; omega
  go_enter Try.func37, Try.ntmps37
  go_wp2
  go_quiet (fail)
  go_wp2
  go_ret
  exact ⟨rfl, _, rfl⟩

/-- a row of int32 is no graph -/
theorem own_ne {w : World} {base G n : Nat} {v : Value} {xs : List Value} {arr : Array Value} (h : w.ownsRow base 21 1 v n xs) (hG : Blk w G arr 54) : some G ≠ v.ownBlock := by
  rcases h.2 with ⟨rfl, _⟩ | ⟨g, cap, cur, rfl, _, hh, _⟩
  · simp [Value.ownBlock]
  · intro e
    simp [Value.ownBlock] at e
    subst e
    rw [hG] at hh
    simp at hh

theorem own_keepG {w w' : World} {base G n : Nat} {v : Value} {xs : List Value} {arr : Array Value} (h : w.ownsRow base 21 1 v n xs) (hG : Blk w G arr 54) (hg : w.grownBy w' v.ownBlock) : Blk w' G arr 54 :=
  (hg.block G hG.lt (own_ne h hG)).trans hG

theorem own_below {w0 w w' : World} {base n : Nat} {v : Value} {xs : List Value} (h : w.ownsRow base 21 1 v n xs) (hb : Below base w0 w) (hs : base ≤ w.heap.size) (hg : w.grownBy w' v.ownBlock) : Below base w0 w' :=
  hb.grown hg hs (fun k hk => (h.lt k hk).1)

set_option maxRecDepth 100000 in
set_option maxHeartbeats 1000000 in
theorem edges0 (T Lw P bW oW bw ow bi oi bh oh cW cw ci ch G base : Nat) (so sI : Value) (wS wI it : Nat → Int) (hr : Nat → Bool) (v : Int) (p x : Nat) (ab : Option Addr) (nb cb : Nat) (fb : Nat → Value) (w : World)
    (hG : Blk w G (gcells T Lw P bW oW bw ow bi oi bh oh cW cw ci ch so sI) 54)
    (cW0 : ∀ j, j < Lw → w.cell? ⟨bW, oW + j, none⟩ = some (.int .i64 (wS j))) (cw0 : ∀ j, j < P → w.cell? ⟨bw, ow + j, none⟩ = some (.int .i32 (wI j)))
    (ci0 : ∀ j, j < P → w.cell? ⟨bi, oi + j, none⟩ = some (.int .i32 (it j))) (ch0 : ∀ j, j < P → w.cell? ⟨bh, oh + j, none⟩ = some (.bool (hr j)))
    (lW : bW < base) (lw : bw < base) (li : bi < base) (lh : bh < base) (hbase : base ≤ w.heap.size)
    (hbuf : (ab = none ∧ nb = 0 ∧ cb = 0) ∨ ∃ g, ab = some ⟨g, 0, none⟩ ∧ base ≤ g ∧ cb = nb ∧ nb ≤ maxLen ∧ Blk w g (rowOf fb nb) 21)
    (hT : T ≤ 16384) (hLw : Lw ≤ 16384) (hP : P ≤ 16384) (hv0 : (T : Int) ≤ v) (hv1 : v < (T : Int) + 3 * (P : Int)) (hm : (v - (T : Int)) % (P : Int) = (p : Int)) (hd : (v - (T : Int)) / (P : Int) = 0)
    (hp : p < P) (hx : x + 1 < Lw) (hit : it p = (x : Int)) (hx0 : wS x ≤ (p : Int)) (hx1 : (p : Int) < wS (x + 1)) (hx2 : wS (x + 1) ≤ (P : Int)) (hw0 : 0 ≤ wS x) (hall : ∀ q : Nat, wS x ≤ (q : Int) → (q : Int) < wS (x + 1) → it q = (x : Int)) (bw32 : I32 wI) :
    Calls Try.prog 28 #[.pointer (some ⟨G, 0, none⟩), .int .i64 v, .slice ab nb cb] w fun e w' => Got base (Good T P wS wI it 0 p x) w e w' := by
  obtain ⟨v0, hsl, hown⟩ := slice_zero base ab nb cb fb w hbuf
  have g := hG.cell
  have c1 := ci0 p hp
  rw [hit] at c1
  have c2 := cW0 (x + 1) hx
  have c3 := cW0 x (by omega)
  have b1 : (p : Int) < (P : Int) := by omega
  have b2 : (x : Int) + 1 < (Lw : Int) := by omega
  have CW : Hid (∀ j, j < Lw → w.cell? ⟨bW, oW + j, none⟩ = some (.int .i64 (wS j))) := cW0
  have Cw : Hid (∀ j, j < P → w.cell? ⟨bw, ow + j, none⟩ = some (.int .i32 (wI j))) := cw0
  have Ci : Hid (∀ j, j < P → w.cell? ⟨bi, oi + j, none⟩ = some (.int .i32 (it j))) := ci0
  have Ch : Hid (∀ j, j < P → w.cell? ⟨bh, oh + j, none⟩ = some (.bool (hr j))) := ch0
  have HA : Hid (∀ q : Nat, wS x ≤ (q : Int) → (q : Int) < wS (x + 1) → it q = (x : Int)) := hall
  have B32 : Hid (I32 wI) := bw32
  clear cW0 cw0 ci0 ch0 hbuf hall bw32
  have HI : Hid (it p = (x : Int)) := hit
  have vlt : decide (v < (T : Int)) = false := decide_eq_false (by omega)
  clear hit
  have e32 : IntKind.i32.wrap ((x : Int) + 1) = (x : Int) + 1 := by rw [IntKind.wrap_i32]; omega
  have et : ((x : Int) + 1).toNat = x + 1 := by omega
  obtain ⟨i0, hi, hz0, hz1, hz2⟩ := info_parts info21
  have HOW : Hid (w.ownsRow base 21 1 v0 0 []) := hown
  clear hown
  by_cases hend : (p : Int) + 1 < wS (x + 1)
  · go_enter Try.func28, Try.ntmps28
    go_wp2
    try rw [hm]
    go_quiet (fail)
    go_wp2_with fail
    refine (earlier_any G T p _ (by exact g 0) hT (by omega)).mono ?_
    rintro e w' ⟨rfl, rfl⟩
    have cv : IntKind.i32.wrap ((T : Int) + ((p : Int) + 1)) = (T : Int) + ((p : Int) + 1) := by rw [IntKind.wrap_i32]; omega
    go_wp2_with (at_builtin; refine wpList_append_own _ rfl (.tmp 113) (.tmp 119) 23 rfl base 21 i0 (.int .i32 0) 1 4 Try.underlying23 hi hz0 hz1 hz2 rfl (by decide) _ _ _ rfl (HOW.out.alloc _) ⟨w.heap.size, 0, none⟩ 1 1 [.int .i32 ((T : Int) + ((p : Int) + 1))] rfl rfl ?c1 ?c2 ?c3 ?c4 ?c5 ?_)
    case c1 => exact cell_one_new _ _ _
    case c2 => intro u hu; simp at hu; subst hu; rfl
    case c3 => unfold maxLen; omega
    case c4 => omega
    case c5 => simp; omega
    intro v1 w1 hown1 hg1 _
    have O1 : Hid (w1.ownsRow base 21 1 v1 1 [.int .i32 ((T : Int) + ((p : Int) + 1))]) := hown1
    have HD : (w.drewN nq).ownsRow base 21 1 v0 0 [] := HOW.out
    have G1 := own_keepG (HD.alloc _) ((hG.drewN nq).alloc _) hg1
    have Bel1 := own_below (HD.alloc _) ((below_drewN (Below.refl base w) nq).alloc hbase _) (by simp; omega) hg1
    have c4 : w1.cell? ⟨bh, oh + (p + 1), none⟩ = some (.bool (hr (p + 1))) := (Bel1.cell (p := ⟨bh, oh + (p + 1), none⟩) lh).trans (Ch.out (p + 1) (by omega))
    have c5 : w1.cell? ⟨bw, ow + (p + 1), none⟩ = some (.int .i32 (wI (p + 1))) := (Bel1.cell (p := ⟨bw, ow + (p + 1), none⟩) lw).trans (Cw.out (p + 1) (by omega))
    have b3 : (p : Int) + 1 < (P : Int) := by omega
    have g1 := G1.cell
    have gd1 : Good T P wS wI it 0 p x ((T : Int) + ((p : Int) + 1)) := .inr ⟨p + 1, by omega, by omega, by omega, HA.out (p + 1) (by omega) (by omega)⟩
    have gd2 : Good T P wS wI it 0 p x (wI (p + 1)) := .inl ⟨p + 1, by omega, by omega, rfl⟩
    have b5 := B32.out (p + 1)
    have D1 : Hid (Good T P wS wI it 0 p x ((T : Int) + ((p : Int) + 1))) := gd1
    have D2 : Hid (Good T P wS wI it 0 p x (wI (p + 1))) := gd2
    clear HD hown1 hg1 G1 g c1 c2 c3 hG cv gd1 gd2 hsl
    cases hhr : hr (p + 1) with
    | false =>
      rw [hhr] at c4
      go_wp2
      go_ret
      exact ⟨v1, [_], rfl, O1.out, by simp, by simp; exact ⟨D1.out, by omega, by omega⟩, Bel1⟩
    | true =>
      rw [hhr] at c4
      clear hhr
      have hb1 : base ≤ w1.heap.size := by have := Bel1.size; omega
      go_wp2_with (at_builtin; refine wpList_append_own _ rfl (.tmp 129) (.tmp 139) 23 rfl base 21 i0 (.int .i32 0) 1 4 Try.underlying23 hi hz0 hz1 hz2 rfl (by decide) _ _ _ rfl (O1.out.alloc _) ⟨w1.heap.size, 0, none⟩ 1 1 [.int .i32 (wI (p + 1))] rfl rfl ?d1 ?d2 ?d3 ?d4 ?d5 ?_)
      case d1 => exact cell_one_new _ _ _
      case d2 => intro u hu; simp at hu; subst hu; rfl
      case d3 => unfold maxLen; omega
      case d4 => omega
      case d5 => simp; omega
      intro v2 w2 hown2 hg2 _
      have Bel2 := own_below (O1.out.alloc _) (Bel1.alloc hb1 _) (by simp; omega) hg2
      have O2 : Hid (w2.ownsRow base 21 1 v2 2 [.int .i32 ((T : Int) + ((p : Int) + 1)), .int .i32 (wI (p + 1))]) := hown2
      clear hown2 hg2 O1 g1 c4 c5
      go_wp2
      go_ret
      exact ⟨v2, [_, _], rfl, O2.out, by simp, by simp; exact ⟨⟨D1.out, by omega, by omega⟩, D2.out, by omega, by omega⟩, Bel2⟩
  · go_enter Try.func28, Try.ntmps28
    go_wp2
    try rw [hm]
    go_quiet (fail)
    go_wp2
    go_ret
    exact ⟨v0, [], rfl, HOW.out, by simp, by simp, below_drewN (Below.refl _ _) _⟩

end Go.Proofs.Qxb6602948a

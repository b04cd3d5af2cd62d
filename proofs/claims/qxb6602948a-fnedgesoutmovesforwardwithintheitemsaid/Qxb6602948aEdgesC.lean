import Derived.Test.Qxb6602948aEdgesB
import Derived.Test.Qxb6602948aSmall
namespace Go.Proofs.Qxb6602948a
open Go.RowKit Go.Kx
set_option linter.unusedVariables false

theorem find_item {wS : Nat → Int} {p : Nat} (h0 : wS 0 = 0) : ∀ n : Nat, (p : Int) < wS n → ∃ x, x < n ∧ wS x ≤ (p : Int) ∧ (p : Int) < wS (x + 1)
  | 0, h => by rw [h0] at h; omega
  | n + 1, h => by
    by_cases hn : (p : Int) < wS n
    · obtain ⟨x, hx, h1, h2⟩ := find_item h0 n hn
      exact ⟨x, by omega, h1, h2⟩
    · exact ⟨n, by omega, by omega, h⟩

/-- what ZZEdgesOut hands back, as the law wants it -/
def Gets (base : Nat) (Q : Int → Prop) (w : World) (e : Ending) (w' : World) : Prop :=
  ∃ (a : Option Addr) (n c : Nat) (z : Nat → Int), e = .returned (.slice a n c) ∧ Rw w' a n c (ints .i32 z) ∧ n ≤ 2 ∧ (∀ j, j < n → Q (z j)) ∧ I32 z ∧ Below base w w'

theorem Got.gets {base : Nat} {Q : Int → Prop} {w w' : World} {e : Ending} (h : Got base Q w e w') : Gets base Q w e w' := by
  obtain ⟨v, es, rfl, hown, hn, hq, hb⟩ := h
  rcases hown.2 with ⟨rfl, h0⟩ | ⟨g, cap, cur, rfl, _, hg, hle, _, hcs, htake⟩
  · obtain rfl : es = [] := List.eq_nil_of_length_eq_zero h0
    exact ⟨none, 0, 0, fun _ => 0, rfl, Rw.nil _ _, by omega, by omega, fun _ => by simp, hb⟩
  · refine ⟨some ⟨g, 0, none⟩, es.length, cap, fun j => es.getD j 0, rfl, ⟨by simp, fun x hx j hj => ?_⟩, hn, fun j hj => ?_, fun j => ?_, hb⟩
    · obtain rfl := Option.some.inj hx
      rw [Addr.add_lit, Nat.zero_add, hown.cellAt j (by omega)]
      simp [hj, List.getD]
    · exact (hq _ (by simp [List.getD, hj])).1
    · by_cases hj : j < es.length
      · have := (hq (es.getD j 0) (by simp [List.getD, hj])).2
        exact this
      · simp [List.getD, hj]

set_option maxRecDepth 100000 in
theorem zzedges_any (T Lw P bW oW bw ow bi oi bh oh cW cw ci ch G base : Nat) (so sI : Value) (wS wI it : Nat → Int) (hr : Nat → Bool) (v : Int) (k p x : Nat) (ab : Option Addr) (nb cb : Nat) (fb : Nat → Value) (w : World)
    (hG : Blk w G (gcells T Lw P bW oW bw ow bi oi bh oh cW cw ci ch so sI) 54)
    (cW0 : ∀ j, j < Lw → w.cell? ⟨bW, oW + j, none⟩ = some (.int .i64 (wS j))) (cw0 : ∀ j, j < P → w.cell? ⟨bw, ow + j, none⟩ = some (.int .i32 (wI j)))
    (ci0 : ∀ j, j < P → w.cell? ⟨bi, oi + j, none⟩ = some (.int .i32 (it j))) (ch0 : ∀ j, j < P → w.cell? ⟨bh, oh + j, none⟩ = some (.bool (hr j)))
    (lW : bW < base) (lw : bw < base) (li : bi < base) (lh : bh < base) (hbase : base ≤ w.heap.size)
    (hbuf : (ab = none ∧ nb = 0 ∧ cb = 0) ∨ ∃ g, ab = some ⟨g, 0, none⟩ ∧ base ≤ g ∧ cb = nb ∧ nb ≤ maxLen ∧ Blk w g (rowOf fb nb) 21)
    (hT : T ≤ 16384) (hLw : Lw ≤ 16384) (hP : P ≤ 16384) (hk : k < 3) (hv : v = (T : Int) + (k : Int) * (P : Int) + (p : Int))
    (hp : p < P) (hx : x + 1 < Lw) (hit : it p = (x : Int)) (hx0 : wS x ≤ (p : Int)) (hx1 : (p : Int) < wS (x + 1)) (hx2 : wS (x + 1) ≤ (P : Int)) (hw0 : 0 ≤ wS x) (hall : ∀ q : Nat, wS x ≤ (q : Int) → (q : Int) < wS (x + 1) → it q = (x : Int)) (bw32 : I32 wI) :
    Calls Try.prog 13 #[.pointer (some ⟨G, 0, none⟩), .int .i64 v, .slice ab nb cb] w fun e w' => Gets base (Good T P wS wI it k p x) w e w' := by
  have key : Calls Try.prog 28 #[.pointer (some ⟨G, 0, none⟩), .int .i64 v, .slice ab nb cb] w fun e w' => Got base (Good T P wS wI it k p x) w e w' := by
    have hk' : k = 0 ∨ k = 1 ∨ k = 2 := by omega
    rcases hk' with rfl | rfl | rfl
    · exact edges0 T Lw P bW oW bw ow bi oi bh oh cW cw ci ch G base so sI wS wI it hr v p x ab nb cb fb w hG cW0 cw0 ci0 ch0 lW lw li lh hbase hbuf hT hLw hP (by omega) (by omega)
        (by rw [show v - (T : Int) = (p : Int) by omega]; exact Int.emod_eq_of_lt (by omega) (by omega)) (by rw [show v - (T : Int) = (p : Int) by omega]; exact Int.ediv_eq_zero_of_lt (by omega) (by omega)) hp hx hit hx0 hx1 hx2 hw0 hall bw32
    · exact edges1 T Lw P bW oW bw ow bi oi bh oh cW cw ci ch G base so sI wS wI it hr v p x ab nb cb fb w hG cW0 cw0 ci0 ch0 lW lw li lh hbase hbuf hT hLw hP (by omega) (by omega)
        (by rw [show v - (T : Int) = (p : Int) + (P : Int) * 1 by omega, Int.add_mul_emod_self_left]; exact Int.emod_eq_of_lt (by omega) (by omega)) (by rw [show v - (T : Int) = (p : Int) + (P : Int) * 1 by omega, Int.add_mul_ediv_left _ _ (by omega), Int.ediv_eq_zero_of_lt (by omega) (by omega)]; rfl) hp hx hit hx0 hx1 hx2 hw0 hall bw32
    · exact edges2 T Lw P bW oW bw ow bi oi bh oh cW cw ci ch G base so sI wS wI it hr v p x ab nb cb fb w hG cW0 cw0 ci0 ch0 lW lw li lh hbase hbuf hT hLw hP (by omega) (by omega)
        (by rw [show v - (T : Int) = (p : Int) + (P : Int) * 2 by omega, Int.add_mul_emod_self_left]; exact Int.emod_eq_of_lt (by omega) (by omega)) (by rw [show v - (T : Int) = (p : Int) + (P : Int) * 2 by omega, Int.add_mul_ediv_left _ _ (by omega), Int.ediv_eq_zero_of_lt (by omega) (by omega)]; rfl) hp hx hit hx0 hx1 hx2 hw0 hall bw32
  have KEY := key
  clear key hG cW0 cw0 ci0 ch0 hbuf hall hv
  have K : Hid (Calls Try.prog 28 #[.pointer (some ⟨G, 0, none⟩), .int .i64 v, .slice ab nb cb] w fun e w' => Got base (Good T P wS wI it k p x) w e w') := KEY
  clear KEY hit
  go_enter Try.func13, Try.ntmps13
  go_wp2_with fail
  refine K.out.mono ?_
  intro e w' hgot
  obtain ⟨a, n, c, z, rfl, hz⟩ := hgot.gets
  clear hgot
  go_wp2
  go_ret
  exact ⟨a, n, c, z, rfl, hz⟩

end Go.Proofs.Qxb6602948a

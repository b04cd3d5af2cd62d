import Derived.Test.Qxb6602948aRen
import Derived.Test.Qxb6602948aGp
import Derived.Test.Qxb6602948aLink
import Derived.Test.Qxb6602948aClone
namespace Go.Uf
open Go.Proofs.Qxb6602948a (Starts)
set_option linter.unusedVariables false

theorem part_eq {items : Nat} {rS rI wS wI : Nat → Int} {t rlo nr wlo nw : Nat} (re1 : rS t = (rlo : Int)) (re2 : rS (t + 1) = ((rlo + nr : Nat) : Int)) (we1 : wS t = (wlo : Int)) (we2 : wS (t + 1) = ((wlo + nw : Nat) : Int)) :
    part items rS rI wS wI t = (List.range nr).map (fun k => (items : Int) - 1 - rI (rlo + k)) ++ (List.range nw).map (fun k => (items : Int) - 1 - wI (wlo + k)) := by
  unfold part
  rw [re1, re2, we1, we2, show (((rlo + nr : Nat) : Int) - (rlo : Int)).toNat = nr by omega, show (((wlo + nw : Nat) : Int) - (wlo : Int)).toNat = nw by omega]
  rfl

theorem take_next (l : List Int) (k : Nat) (x : Int) (hk : l[k]? = some x) : l.take (k + 1) = l.take k ++ [x] := by
  rw [List.take_add_one, hk]; rfl

theorem parts_len {n items M N : Nat} {rS rI wS wI : Nat → Int} (rs : Starts rS (n + 1) n M) (ws : Starts wS (n + 1) n N) : ∀ t, t ≤ n → ((parts items rS rI wS wI t).length : Int) = (rS t - rS 0) + (wS t - wS 0)
  | 0, _ => by rw [Int.sub_self, Int.sub_self]; rfl
  | t + 1, h => by
    obtain ⟨rlo, nr, re1, re2, re3⟩ := starts_at rs (show t < n by omega)
    obtain ⟨wlo, nw, we1, we2, we3⟩ := starts_at ws (show t < n by omega)
    have ih := parts_len (items := items) (rI := rI) (wI := wI) rs ws t (by omega)
    show ((parts items rS rI wS wI t ++ part items rS rI wS wI t).length : Int) = _
    rw [List.length_append, part_eq re1 re2 we1 we2, re2, we2]
    rw [re1, we1] at ih
    simp
    omega

theorem parts_mem {n items M N : Nat} {rS rI wS wI : Nat → Int} (rs : Starts rS (n + 1) n M) (ws : Starts wS (n + 1) n N) (ri : ∀ q, q < M → 0 ≤ rI q ∧ rI q < (items : Int)) (wi : ∀ q, q < N → 0 ≤ wI q ∧ wI q < (items : Int)) :
    ∀ t, t ≤ n → ∀ x ∈ parts items rS rI wS wI t, 0 ≤ x ∧ x < (items : Int)
  | 0, _ => by intro x hx; simp [parts] at hx
  | t + 1, h => by
    obtain ⟨rlo, nr, re1, re2, re3⟩ := starts_at rs (show t < n by omega)
    obtain ⟨wlo, nw, we1, we2, we3⟩ := starts_at ws (show t < n by omega)
    have ih := parts_mem rs ws ri wi t (by omega)
    intro x hx
    have hx' : x ∈ parts items rS rI wS wI t ++ part items rS rI wS wI t := hx
    rw [part_eq re1 re2 we1 we2] at hx'
    rcases List.mem_append.1 hx' with h1 | h1
    · exact ih x h1
    · rcases List.mem_append.1 h1 with h2 | h2
      · obtain ⟨k, hk, rfl⟩ := List.mem_map.1 h2
        have := ri (rlo + k) (by have := List.mem_range.1 hk; omega)
        omega
      · obtain ⟨k, hk, rfl⟩ := List.mem_map.1 h2
        have := wi (wlo + k) (by have := List.mem_range.1 hk; omega)
        omega

theorem parts_grow (items : Nat) (rS rI wS wI : Nat → Int) (t : Nat) : (parts items rS rI wS wI t).length ≤ (parts items rS rI wS wI (t + 1)).length := by
  show _ ≤ (parts items rS rI wS wI t ++ part items rS rI wS wI t).length
  simp
end Go.Uf
namespace Go.Proofs.Qxb6602948a
open Go.RowKit Go.Kx Go.Uf
set_option linter.unusedVariables false

theorem row_i32 {w : World} {base n c : Nat} {a : Option Addr} {l : List Int} (h : w.ownsRow base 21 1 (.slice a n c) n (l.map (Value.int .i32))) : Rw w a n c (ints .i32 (fun i => l.getD i 0)) := by
  rcases h.2 with ⟨e, h0⟩ | ⟨g, cap, cur, e, _, hh, _⟩
  · simp at e
    obtain ⟨rfl, rfl, rfl⟩ := e
    exact ⟨fun _ => ⟨rfl, rfl⟩, by simp⟩
  · simp at e
    obtain ⟨rfl, rfl⟩ := e
    refine ⟨by simp, fun x hx i hi => ?_⟩
    obtain rfl := Option.some.inj hx
    rw [Addr.add_lit, Nat.zero_add, h.cellAt i (by omega)]
    have hl : i < l.length := by have := h.1; simp at this; omega
    simp [List.getD, hl, ints]

/-- the renamed history, being built -/
structure Bk (w9 wr : World) (n cap : Nat) (p : Nat → Int) (L : List Int) : Prop where
  z : Blk wr w9.heap.size (rowOf (fun _ => .int .i64 0) (n + 1)) 3
  s : Blk wr (w9.heap.size + 1) (rowOf (ints .i64 p) (n + 1)) 3
  o : wr.ownsRow (w9.heap.size + 2) 21 1 (.slice (some ⟨w9.heap.size + 2, 0, none⟩) L.length cap) L.length (L.map (Value.int .i32))
  b : Below w9.heap.size w9 wr
  sz : w9.heap.size + 3 ≤ wr.heap.size

theorem Bk.push {w9 wr w' : World} {n cap : Nat} {p : Nat → Int} {L : List Int} {o : Obj} {x : Int} (h : Bk w9 wr n cap p L)
    (ho : w'.ownsRow (w9.heap.size + 2) 21 1 (.slice (some ⟨w9.heap.size + 2, 0, none⟩) (L.length + 1) cap) (L.length + 1) (L.map (Value.int .i32) ++ [.int .i32 x])) (hg : (wr.alloc o).grownBy w' (some (w9.heap.size + 2))) : Bk w9 w' n cap p (L ++ [x]) := by
  have hsz := h.sz
  have hs := hg.size
  rw [World.size_alloc] at hs
  refine ⟨?_, ?_, by simpa using ho, (h.b.alloc (by omega) o).grown hg (by simp; omega) (fun q hq => by obtain rfl := Option.some.inj hq; omega), by omega⟩
  · exact (hg.block _ (by simp; omega) (by simp)).trans (h.z.alloc o)
  · exact (hg.block _ (by simp; omega) (by simp)).trans (h.s.alloc o)

theorem Bk.mark {w9 wr : World} {n cap : Nat} {p : Nat → Int} {L : List Int} (h : Bk w9 wr n cap p L) (k : Nat) (x : Int) : Bk w9 (wr.setCell ⟨w9.heap.size + 1, k, none⟩ (.int .i64 x)) n cap (upd p k x) L := by
  refine ⟨h.z.other _ _ (by simp), (h.s.set k _).congr (ints_set p (n + 1) k x), ?_, h.b.setCell (by simp) _, by simpa using h.sz⟩
  exact ownsRow_same h.o fun b hb _ => heap_setCell_other wr _ b _ (by obtain rfl := Option.some.inj hb; simp)

theorem bk_ints {n : Nat} {w9 wr : World} {cap : Nat} {p q : Nat → Int} {L : List Int} (h : Bk w9 wr n cap p L) (e : ∀ j, j < n + 1 → p j = q j) : Bk w9 wr n cap q L :=
  ⟨h.z, h.s.congr (rowOf_congr fun j hj => by simp [ints, e j hj]), h.o, h.b, h.sz⟩
/-- two makes -/
theorem mk22 (n0 : Nat) (ln0 : n0 ≤ 4096) (w : World) : (Instr.makeSlice 22 (.int .i64 ((n0 : Int) + 1)) (.int .i64 ((n0 : Int) + 1))).run Try.prog w = .ok (.slice (some ⟨w.heap.size, 0, none⟩) (n0 + 1) (n0 + 1)) (w.alloc (.cells (rowOf (fun _ => .int .i64 0) (n0 + 1)) 3)) := by
  obtain ⟨i3, hi3, hz30, hz31, hz32⟩ := info_parts info3
  have := run_make (P := Try.prog) w 22 3 i3 (.int .i64 0) Try.underlying22 hi3 hz30 .i64 .i64 ((n0 : Int) + 1) ((n0 : Int) + 1) (by omega) (by omega) (by rw [hz32]; omega) (by omega)
  rw [this, show ((n0 : Int) + 1).toNat = n0 + 1 by omega, rowOf_const, hz31]
  simp
  rfl
theorem mk23 (M N : Nat) (h : M + N ≤ 65536) (w : World) : (Instr.makeSlice 23 (.int .i64 0) (.int .i64 ((M : Int) + (N : Int)))).run Try.prog w = .ok (.slice (some ⟨w.heap.size, 0, none⟩) 0 (M + N)) (w.alloc (.cells (rowOf (fun _ => .int .i32 0) (M + N)) 21)) := by
  obtain ⟨i0, hi, hz0, hz1, hz2⟩ := info_parts info21
  have := run_make (P := Try.prog) w 23 21 i0 (.int .i32 0) Try.underlying23 hi hz0 .i64 .i64 0 ((M : Int) + (N : Int)) (by omega) (by omega) (by rw [hz2]; omega) (by omega)
  rw [this, show ((M : Int) + (N : Int)).toNat = M + N by omega, rowOf_const, hz1]
  simp
  rfl
end Go.Proofs.Qxb6602948a

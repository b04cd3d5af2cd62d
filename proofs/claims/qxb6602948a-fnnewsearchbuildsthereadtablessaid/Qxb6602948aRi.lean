import Derived.Test.Qxb6602948aGw
import Derived.Test.Qxb6602948aRoot
import Derived.Deep.RegionHeld3
namespace Go.Proofs.Qxb6602948a
open Go.RowKit Go.Kx Go.Uf
set_option linter.unusedVariables false

/-- a slice of length K over the head of a block of c cells, all known -/
def insN (N P : Nat → Nat) (u v : Nat) : Nat → Nat := upd (upd N (P u) v) v u
def insP (N P : Nat → Nat) (u v : Nat) : Nat → Nat := upd (upd P v (P u)) u v

/-- the rings in memory -/
structure Rg (w : World) (bn bp K cn cp : Nat) (N P : Nat → Nat) : Prop where
  n : Blk w bn (rowOf (nats N) cn) 3
  p : Blk w bp (rowOf (nats P) cp) 3
  ln : K ≤ cn
  lp : K ≤ cp
  ne : bn ≠ bp

def InsPost (bn bp K cn cp : Nat) (N P : Nat → Nat) (w : World) (e : Ending) (w' : World) : Prop :=
  e = .returned (.tuple #[]) ∧ w'.heap.size = w.heap.size + 1 ∧ Rg w' bn bp K cn cp N P ∧ (w'.os = w.os ∧ w'.tape = w.tape ∧ w'.output = w.output) ∧ ∀ k, k ≠ bn → k ≠ bp → k < w.heap.size → w'.heap[k]? = w.heap[k]?

set_option maxRecDepth 100000 in
set_option maxHeartbeats 1000000 in
theorem insert_any (bn bp K cn cp u v : Nat) (N P : Nat → Nat) (w : World) (h : Rg w bn bp K cn cp N P) (hu : u < K) (hv : v < K) (hl : P u < K) (hK : K ≤ 1048576) (hne : u ≠ v) (hPv : P u ≠ v) :
    Calls Try.prog 43 #[.agg #[.slice (some ⟨bn, 0, none⟩) K cn, .slice (some ⟨bp, 0, none⟩) K cp], .int .i64 (u : Nat), .int .i64 (v : Nat)] w fun e w' => InsPost bn bp K cn cp (insN N P u v) (insP N P u v) w e w' := by
  have ku : (u : Int) < (K : Int) := by omega
  have kv : (v : Int) < (K : Int) := by omega
  have kl : ((P u : Nat) : Int) < (K : Int) := by omega
  have ln := h.ln
  have lp := h.lp
  have c1 : w.cell? ⟨bp, u, none⟩ = some (.int .i64 (P u : Nat)) := by rw [h.p.cell, rowOf_get _ (by omega)]
  have lt1 := h.p.lt
  have lt2 := h.n.lt
  have c2 : w.cell? ⟨bn, P u, none⟩ = some (.int .i64 (N (P u) : Nat)) := by rw [h.n.cell, rowOf_get _ (by omega)]
  have f2 := h.n.free (P u)
  have c3 : w.cell? ⟨bp, v, none⟩ = some (.int .i64 (P v : Nat)) := by rw [h.p.cell, rowOf_get _ (by omega)]
  have f3 := h.p.free v
  have nb1 : bn ≠ w.heap.size := by omega
  have nb2 : bp ≠ w.heap.size := by omega
  have nb3 := h.ne
  go_enter Try.func43, Try.ntmps43
  go_wp2
  go_region
  go_wp2
  obtain ⟨w2, hw2⟩ : ∃ w2, w2 = (((w.setCell ⟨bn, P u, none⟩ (.int .i64 (v : Nat))).setCell ⟨bp, v, none⟩ (.int .i64 (P u : Nat))).alloc (.cells #[.slice (some ⟨bn, 0, none⟩) K cn, .slice (some ⟨bp, 0, none⟩) K cp] 65)).drew := ⟨_, rfl⟩
  have h2 : Rg w2 bn bp K cn cp (upd N (P u) v) (upd P v (P u)) := by
    rw [hw2]
    refine ⟨?_, ?_, h.ln, h.lp, h.ne⟩
    · exact (((((h.n.set (P u) (.int .i64 (v : Nat))).congr (nats_set N cn (P u) v)).other _ _ (by simp; exact h.ne)).alloc _).drew)
    · exact ((((h.p.other _ _ (by simp; exact fun e => h.ne e.symm)).set v (.int .i64 (P u : Nat))).congr (nats_set P cp v (P u))).alloc _).drew
  have hbB : Blk w2 w.heap.size #[.slice (some ⟨bn, 0, none⟩) K cn, .slice (some ⟨bp, 0, none⟩) K cp] 65 := by
    have := Blk.new ((w.setCell ⟨bn, P u, none⟩ (.int .i64 (v : Nat))).setCell ⟨bp, v, none⟩ (.int .i64 (P u : Nat))) #[.slice (some ⟨bn, 0, none⟩) K cn, .slice (some ⟨bp, 0, none⟩) K cp] 65
    simp at this
    rw [hw2]
    exact this.drew
  have hsz2 : w2.heap.size = w.heap.size + 1 := by rw [hw2]; simp
  have hbel2 : ∀ k, k ≠ bn → k ≠ bp → k < w.heap.size → w2.heap[k]? = w.heap[k]? := fun k h1 h2 h3 => by
    rw [hw2]
    show (World.alloc _ _).heap[k]? = _
    rw [Below.heap_alloc _ _ _ (by simp; exact h3), heap_setCell_other _ _ k _ (by simp; exact h2), heap_setCell_other _ _ k _ (by simp; exact h1)]
  have hwk : w2.os = w.os ∧ w2.tape = w.tape ∧ w2.output = w.output := by rw [hw2]; exact ⟨rfl, rfl, rfl⟩
  rw [← hw2]
  have HW2 : Hid (w2.heap.size = w.heap.size + 1 ∧ (∀ k, k ≠ bn → k ≠ bp → k < w.heap.size → w2.heap[k]? = w.heap[k]?) ∧ w2.os = w.os ∧ w2.tape = w.tape ∧ w2.output = w.output) := ⟨hsz2, hbel2, hwk⟩
  clear hw2 c1 c2 f2 c3 f3 hbel2 hwk h
  have b0 := hbB.cell 0
  have b1 := hbB.cell 1
  have c2 : w2.cell? ⟨bn, v, none⟩ = some (.int .i64 ((upd N (P u) v) v : Nat)) := by rw [h2.n.cell, rowOf_get _ (by omega)]
  have f2 := h2.n.free v
  have c3 : w2.cell? ⟨bp, u, none⟩ = some (.int .i64 ((upd P v (P u)) u : Nat)) := by rw [h2.p.cell, rowOf_get _ (by omega)]
  have f3 := h2.p.free u
  have H2 : Hid (Rg w2 bn bp K cn cp (upd N (P u) v) (upd P v (P u))) := h2
  clear h2 hbB
  go_region
  go_wp2
  refine bodyPost_ret (v := .tuple #[]) (by simp [results, Try.results43]) rfl ⟨rfl, ?_, ?_, ?_, ?_⟩
  · show ((World.setCell _ _ _).setCell _ _).heap.size = _
    simp; exact HW2.out.1
  · exact ⟨((((H2.out.n.set v (.int .i64 (u : Nat))).congr (nats_set _ cn v u)).other _ _ (by simp; exact H2.out.ne)).drew), (((H2.out.p.other _ _ (by simp; exact fun e => H2.out.ne e.symm)).set u (.int .i64 (v : Nat))).congr (nats_set _ cp u v)).drew, H2.out.ln, H2.out.lp, H2.out.ne⟩
  · exact ⟨HW2.out.2.2.1, HW2.out.2.2.2.1, HW2.out.2.2.2.2⟩
  · intro k h1 h2 h3
    show ((World.setCell _ _ _).setCell _ _).heap[k]? = _
    rw [heap_setCell_other _ _ k _ (by simp; exact h2), heap_setCell_other _ _ k _ (by simp; exact h1)]
    exact HW2.out.2.1 k h1 h2 h3
end Go.Proofs.Qxb6602948a

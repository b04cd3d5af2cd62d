import Derived.Test.Qxb6602948aInv
import Derived.Test.Qxb6602948aMh
namespace Go.Proofs.Qxb6602948a
open Go.RowKit Go.Kx Go.Uf Go.Maps
set_option linter.unusedVariables false

/-- a row that has been made -/
def mkOk (w : World) (B : Nat) (v : Value) (k : Nat) (z : Value) (e : TypeId) : Prop := ∃ b, v = .slice (some ⟨b, 0, none⟩) k k ∧ B ≤ b ∧ Blk w b (rowOf (fun _ => z) k) e
theorem mkOk.alloc {w : World} {B : Nat} {v : Value} {k : Nat} {z : Value} {e : TypeId} (h : mkOk w B v k z e) (o : Obj) : mkOk (w.alloc o) B v k z e := by
  obtain ⟨b, h1, h2, h3⟩ := h
  exact ⟨b, h1, h2, h3.alloc o⟩
theorem mkOk.lt {w : World} {B : Nat} {v : Value} {k : Nat} {z : Value} {e : TypeId} (h : mkOk w B v k z e) : v.ownBlock ≠ some w.heap.size := by
  obtain ⟨b, rfl, h2, h3⟩ := h
  have := h3.lt
  simp [Value.ownBlock]; omega
theorem mkOk.new (w : World) {B k : Nat} (z : Value) (e : TypeId) (h : B ≤ w.heap.size) : mkOk (w.alloc (.cells (rowOf (fun _ => z) k) e)) B (.slice (some ⟨w.heap.size, 0, none⟩) k k) k z e := ⟨_, rfl, h, Blk.new w _ e⟩

/-- the cells of a new search -/
abbrev scells (v0 v1 v2 v3 v4 v7 v9 : Value) : Array Value := #[v0, v1, v2, v3, v4, .slice none 0 0, .slice none 0 0, .slice none 0 0, v7, .slice none 0 0, v9]

structure R2 (n items H : Nat) (w0 : World) (L : Nat → Bool) (x : Nat → Value) (w : World) : Prop where
  p0 : L 0 = true → x 24 = (.pointer (some ⟨H, 0, none⟩))
  p1 : L 1 = true → x 25 = (.int .i64 (n : Int))
  p3 : L 3 = true → x 27 = (.int .i64 (n : Int))
  p5 : L 5 = true → x 29 = (.int .i64 (n : Int))
  p7 : L 7 = true → x 31 = (.int .i64 (n : Int))
  p8 : L 8 = true → x 32 = (.int .i64 ((n : Int) + 1))
  p10 : L 10 = true → x 34 = (.pointer (some ⟨H, 0, none⟩))
  p11 : L 11 = true → x 35 = (.pointer (some ⟨H, 0, none⟩))
  p12 : L 12 = true → x 36 = (.pointer (some ⟨H, 1, none⟩))
  p13 : L 13 = true → x 37 = (.int .i64 (items : Int))
  p15 : L 15 = true → x 39 = (.int .i64 (n : Int))
  m2 : L 2 = true → mkOk w w0.heap.size (x 26) n (.bool false) 4
  m4 : L 4 = true → mkOk w w0.heap.size (x 28) n (.slice none 0 0) 22
  m6 : L 6 = true → mkOk w w0.heap.size (x 30) n (.slice none 0 0) 22
  m9 : L 9 = true → mkOk w w0.heap.size (x 33) (n + 1) (.int .i64 0) 3
  m14 : L 14 = true → mkOk w w0.heap.size (x 38) items (.slice none 0 0) 22
  m16 : L 16 = true → mkOk w w0.heap.size (x 40) n (.int .i64 0) 3
  q2_4 : L 2 = true → L 4 = true → (x 26).ownBlock ≠ (x 28).ownBlock
  q2_6 : L 2 = true → L 6 = true → (x 26).ownBlock ≠ (x 30).ownBlock
  q2_9 : L 2 = true → L 9 = true → (x 26).ownBlock ≠ (x 33).ownBlock
  q2_14 : L 2 = true → L 14 = true → (x 26).ownBlock ≠ (x 38).ownBlock
  q2_16 : L 2 = true → L 16 = true → (x 26).ownBlock ≠ (x 40).ownBlock
  q4_6 : L 4 = true → L 6 = true → (x 28).ownBlock ≠ (x 30).ownBlock
  q4_9 : L 4 = true → L 9 = true → (x 28).ownBlock ≠ (x 33).ownBlock
  q4_14 : L 4 = true → L 14 = true → (x 28).ownBlock ≠ (x 38).ownBlock
  q4_16 : L 4 = true → L 16 = true → (x 28).ownBlock ≠ (x 40).ownBlock
  q6_9 : L 6 = true → L 9 = true → (x 30).ownBlock ≠ (x 33).ownBlock
  q6_14 : L 6 = true → L 14 = true → (x 30).ownBlock ≠ (x 38).ownBlock
  q6_16 : L 6 = true → L 16 = true → (x 30).ownBlock ≠ (x 40).ownBlock
  q9_14 : L 9 = true → L 14 = true → (x 33).ownBlock ≠ (x 38).ownBlock
  q9_16 : L 9 = true → L 16 = true → (x 33).ownBlock ≠ (x 40).ownBlock
  q14_16 : L 14 = true → L 16 = true → (x 38).ownBlock ≠ (x 40).ownBlock
  p17 : L 17 = true → x 41 = .agg (scells (x 24) (x 26) (x 28) (x 30) (x 33) (x 38) (x 40))
  c17 : L 17 = true → L 0 = true ∧ L 2 = true ∧ L 4 = true ∧ L 6 = true ∧ L 9 = true ∧ L 14 = true ∧ L 16 = true
  p18 : L 18 = true → ∃ S, x 42 = .pointer (some ⟨S, 0, none⟩) ∧ w0.heap.size ≤ S ∧ Blk w S (scells (x 24) (x 26) (x 28) (x 30) (x 33) (x 38) (x 40)) 67 ∧ (x 26).ownBlock ≠ some S ∧ (x 28).ownBlock ≠ some S ∧ (x 30).ownBlock ≠ some S ∧ (x 33).ownBlock ≠ some S ∧ (x 38).ownBlock ≠ some S ∧ (x 40).ownBlock ≠ some S
  c18 : L 18 = true → L 17 = true
  p19 : L 19 = true → x 4 = x 42
  c19 : L 19 = true → L 18 = true
  bel : Below w0.heap.size w0 w

theorem R2.s0 {n items H : Nat} {w0 w : World} {L L' : Nat → Bool} {x : Nat → Value} (R : R2 n items H w0 L x w) (h0 : L 0 = false) (hL : ∀ j, j ≠ 0 → L' j = L j) (v : Value) (hv : v = (.pointer (some ⟨H, 0, none⟩))) : R2 n items H w0 L' (upd x 24 v) w := by
  have U : ∀ s, s ≠ 24 → upd x 24 v s = x s := fun s hs => upd_ne x v hs
  have E : upd x 24 v 24 = v := upd_same x 24 v
  have n17 : L 17 = true → L 0 = true → False := fun _ h => by rw [h0] at h; cases h
  refine ⟨?_, ?_, ?_, ?_, ?_, ?_, ?_, ?_, ?_, ?_, ?_, ?_, ?_, ?_, ?_, ?_, ?_, ?_, ?_, ?_, ?_, ?_, ?_, ?_, ?_, ?_, ?_, ?_, ?_, ?_, ?_, ?_, ?_, ?_, ?_, ?_, ?_, ?_, ?_⟩
  · intro _; rw [E]; exact hv
  · intro h; rw [hL 1 (by decide)] at h; rw [U 25 (by decide)]; exact R.p1 h
  · intro h; rw [hL 3 (by decide)] at h; rw [U 27 (by decide)]; exact R.p3 h
  · intro h; rw [hL 5 (by decide)] at h; rw [U 29 (by decide)]; exact R.p5 h
  · intro h; rw [hL 7 (by decide)] at h; rw [U 31 (by decide)]; exact R.p7 h
  · intro h; rw [hL 8 (by decide)] at h; rw [U 32 (by decide)]; exact R.p8 h
  · intro h; rw [hL 10 (by decide)] at h; rw [U 34 (by decide)]; exact R.p10 h
  · intro h; rw [hL 11 (by decide)] at h; rw [U 35 (by decide)]; exact R.p11 h
  · intro h; rw [hL 12 (by decide)] at h; rw [U 36 (by decide)]; exact R.p12 h
  · intro h; rw [hL 13 (by decide)] at h; rw [U 37 (by decide)]; exact R.p13 h
  · intro h; rw [hL 15 (by decide)] at h; rw [U 39 (by decide)]; exact R.p15 h
  · intro h; rw [hL 2 (by decide)] at h; rw [U 26 (by decide)]; exact R.m2 h
  · intro h; rw [hL 4 (by decide)] at h; rw [U 28 (by decide)]; exact R.m4 h
  · intro h; rw [hL 6 (by decide)] at h; rw [U 30 (by decide)]; exact R.m6 h
  · intro h; rw [hL 9 (by decide)] at h; rw [U 33 (by decide)]; exact R.m9 h
  · intro h; rw [hL 14 (by decide)] at h; rw [U 38 (by decide)]; exact R.m14 h
  · intro h; rw [hL 16 (by decide)] at h; rw [U 40 (by decide)]; exact R.m16 h
  · intro h k; rw [hL 2 (by decide)] at h; rw [hL 4 (by decide)] at k; rw [U 26 (by decide), U 28 (by decide)]; exact R.q2_4 h k
  · intro h k; rw [hL 2 (by decide)] at h; rw [hL 6 (by decide)] at k; rw [U 26 (by decide), U 30 (by decide)]; exact R.q2_6 h k
  · intro h k; rw [hL 2 (by decide)] at h; rw [hL 9 (by decide)] at k; rw [U 26 (by decide), U 33 (by decide)]; exact R.q2_9 h k
  · intro h k; rw [hL 2 (by decide)] at h; rw [hL 14 (by decide)] at k; rw [U 26 (by decide), U 38 (by decide)]; exact R.q2_14 h k
  · intro h k; rw [hL 2 (by decide)] at h; rw [hL 16 (by decide)] at k; rw [U 26 (by decide), U 40 (by decide)]; exact R.q2_16 h k
  · intro h k; rw [hL 4 (by decide)] at h; rw [hL 6 (by decide)] at k; rw [U 28 (by decide), U 30 (by decide)]; exact R.q4_6 h k
  · intro h k; rw [hL 4 (by decide)] at h; rw [hL 9 (by decide)] at k; rw [U 28 (by decide), U 33 (by decide)]; exact R.q4_9 h k
  · intro h k; rw [hL 4 (by decide)] at h; rw [hL 14 (by decide)] at k; rw [U 28 (by decide), U 38 (by decide)]; exact R.q4_14 h k
  · intro h k; rw [hL 4 (by decide)] at h; rw [hL 16 (by decide)] at k; rw [U 28 (by decide), U 40 (by decide)]; exact R.q4_16 h k
  · intro h k; rw [hL 6 (by decide)] at h; rw [hL 9 (by decide)] at k; rw [U 30 (by decide), U 33 (by decide)]; exact R.q6_9 h k
  · intro h k; rw [hL 6 (by decide)] at h; rw [hL 14 (by decide)] at k; rw [U 30 (by decide), U 38 (by decide)]; exact R.q6_14 h k
  · intro h k; rw [hL 6 (by decide)] at h; rw [hL 16 (by decide)] at k; rw [U 30 (by decide), U 40 (by decide)]; exact R.q6_16 h k
  · intro h k; rw [hL 9 (by decide)] at h; rw [hL 14 (by decide)] at k; rw [U 33 (by decide), U 38 (by decide)]; exact R.q9_14 h k
  · intro h k; rw [hL 9 (by decide)] at h; rw [hL 16 (by decide)] at k; rw [U 33 (by decide), U 40 (by decide)]; exact R.q9_16 h k
  · intro h k; rw [hL 14 (by decide)] at h; rw [hL 16 (by decide)] at k; rw [U 38 (by decide), U 40 (by decide)]; exact R.q14_16 h k
  · intro h; rw [hL 17 (by decide)] at h; exact (n17 h (R.c17 h).1).elim
  · intro h; rw [hL 17 (by decide)] at h; exact (n17 h (R.c17 h).1).elim
  · intro h; rw [hL 18 (by decide)] at h; exact (n17 (R.c18 h) (R.c17 (R.c18 h)).1).elim
  · intro h; rw [hL 18 (by decide)] at h; rw [hL 17 (by decide)]; exact R.c18 h
  · intro h; rw [hL 19 (by decide)] at h; rw [U 4 (by decide), U 42 (by decide)]; exact R.p19 h
  · intro h; rw [hL 19 (by decide)] at h; rw [hL 18 (by decide)]; exact R.c19 h
  · exact R.bel

theorem R2.s1 {n items H : Nat} {w0 w : World} {L L' : Nat → Bool} {x : Nat → Value} (R : R2 n items H w0 L x w) (h0 : L 1 = false) (hL : ∀ j, j ≠ 1 → L' j = L j) (v : Value) (hv : v = (.int .i64 (n : Int))) : R2 n items H w0 L' (upd x 25 v) w := by
  have U : ∀ s, s ≠ 25 → upd x 25 v s = x s := fun s hs => upd_ne x v hs
  have E : upd x 25 v 25 = v := upd_same x 25 v
  have n17 : L 17 = true → L 1 = true → False := fun _ h => by rw [h0] at h; cases h
  refine ⟨?_, ?_, ?_, ?_, ?_, ?_, ?_, ?_, ?_, ?_, ?_, ?_, ?_, ?_, ?_, ?_, ?_, ?_, ?_, ?_, ?_, ?_, ?_, ?_, ?_, ?_, ?_, ?_, ?_, ?_, ?_, ?_, ?_, ?_, ?_, ?_, ?_, ?_, ?_⟩
  · intro h; rw [hL 0 (by decide)] at h; rw [U 24 (by decide)]; exact R.p0 h
  · intro _; rw [E]; exact hv
  · intro h; rw [hL 3 (by decide)] at h; rw [U 27 (by decide)]; exact R.p3 h
  · intro h; rw [hL 5 (by decide)] at h; rw [U 29 (by decide)]; exact R.p5 h
  · intro h; rw [hL 7 (by decide)] at h; rw [U 31 (by decide)]; exact R.p7 h
  · intro h; rw [hL 8 (by decide)] at h; rw [U 32 (by decide)]; exact R.p8 h
  · intro h; rw [hL 10 (by decide)] at h; rw [U 34 (by decide)]; exact R.p10 h
  · intro h; rw [hL 11 (by decide)] at h; rw [U 35 (by decide)]; exact R.p11 h
  · intro h; rw [hL 12 (by decide)] at h; rw [U 36 (by decide)]; exact R.p12 h
  · intro h; rw [hL 13 (by decide)] at h; rw [U 37 (by decide)]; exact R.p13 h
  · intro h; rw [hL 15 (by decide)] at h; rw [U 39 (by decide)]; exact R.p15 h
  · intro h; rw [hL 2 (by decide)] at h; rw [U 26 (by decide)]; exact R.m2 h
  · intro h; rw [hL 4 (by decide)] at h; rw [U 28 (by decide)]; exact R.m4 h
  · intro h; rw [hL 6 (by decide)] at h; rw [U 30 (by decide)]; exact R.m6 h
  · intro h; rw [hL 9 (by decide)] at h; rw [U 33 (by decide)]; exact R.m9 h
  · intro h; rw [hL 14 (by decide)] at h; rw [U 38 (by decide)]; exact R.m14 h
  · intro h; rw [hL 16 (by decide)] at h; rw [U 40 (by decide)]; exact R.m16 h
  · intro h k; rw [hL 2 (by decide)] at h; rw [hL 4 (by decide)] at k; rw [U 26 (by decide), U 28 (by decide)]; exact R.q2_4 h k
  · intro h k; rw [hL 2 (by decide)] at h; rw [hL 6 (by decide)] at k; rw [U 26 (by decide), U 30 (by decide)]; exact R.q2_6 h k
  · intro h k; rw [hL 2 (by decide)] at h; rw [hL 9 (by decide)] at k; rw [U 26 (by decide), U 33 (by decide)]; exact R.q2_9 h k
  · intro h k; rw [hL 2 (by decide)] at h; rw [hL 14 (by decide)] at k; rw [U 26 (by decide), U 38 (by decide)]; exact R.q2_14 h k
  · intro h k; rw [hL 2 (by decide)] at h; rw [hL 16 (by decide)] at k; rw [U 26 (by decide), U 40 (by decide)]; exact R.q2_16 h k
  · intro h k; rw [hL 4 (by decide)] at h; rw [hL 6 (by decide)] at k; rw [U 28 (by decide), U 30 (by decide)]; exact R.q4_6 h k
  · intro h k; rw [hL 4 (by decide)] at h; rw [hL 9 (by decide)] at k; rw [U 28 (by decide), U 33 (by decide)]; exact R.q4_9 h k
  · intro h k; rw [hL 4 (by decide)] at h; rw [hL 14 (by decide)] at k; rw [U 28 (by decide), U 38 (by decide)]; exact R.q4_14 h k
  · intro h k; rw [hL 4 (by decide)] at h; rw [hL 16 (by decide)] at k; rw [U 28 (by decide), U 40 (by decide)]; exact R.q4_16 h k
  · intro h k; rw [hL 6 (by decide)] at h; rw [hL 9 (by decide)] at k; rw [U 30 (by decide), U 33 (by decide)]; exact R.q6_9 h k
  · intro h k; rw [hL 6 (by decide)] at h; rw [hL 14 (by decide)] at k; rw [U 30 (by decide), U 38 (by decide)]; exact R.q6_14 h k
  · intro h k; rw [hL 6 (by decide)] at h; rw [hL 16 (by decide)] at k; rw [U 30 (by decide), U 40 (by decide)]; exact R.q6_16 h k
  · intro h k; rw [hL 9 (by decide)] at h; rw [hL 14 (by decide)] at k; rw [U 33 (by decide), U 38 (by decide)]; exact R.q9_14 h k
  · intro h k; rw [hL 9 (by decide)] at h; rw [hL 16 (by decide)] at k; rw [U 33 (by decide), U 40 (by decide)]; exact R.q9_16 h k
  · intro h k; rw [hL 14 (by decide)] at h; rw [hL 16 (by decide)] at k; rw [U 38 (by decide), U 40 (by decide)]; exact R.q14_16 h k
  · intro h; rw [hL 17 (by decide)] at h; rw [U 41 (by decide), U 24 (by decide), U 26 (by decide), U 28 (by decide), U 30 (by decide), U 33 (by decide), U 38 (by decide), U 40 (by decide)]; exact R.p17 h
  · intro h; rw [hL 17 (by decide)] at h; rw [hL 0 (by decide), hL 2 (by decide), hL 4 (by decide), hL 6 (by decide), hL 9 (by decide), hL 14 (by decide), hL 16 (by decide)]; exact R.c17 h
  · intro h; rw [hL 18 (by decide)] at h; obtain ⟨S, s1, s2, s3, s4⟩ := R.p18 h; rw [U 42 (by decide), U 24 (by decide), U 26 (by decide), U 28 (by decide), U 30 (by decide), U 33 (by decide), U 38 (by decide), U 40 (by decide)]; exact ⟨S, s1, s2, s3, s4⟩
  · intro h; rw [hL 18 (by decide)] at h; rw [hL 17 (by decide)]; exact R.c18 h
  · intro h; rw [hL 19 (by decide)] at h; rw [U 4 (by decide), U 42 (by decide)]; exact R.p19 h
  · intro h; rw [hL 19 (by decide)] at h; rw [hL 18 (by decide)]; exact R.c19 h
  · exact R.bel

theorem R2.s2 {n items H : Nat} {w0 w : World} {L L' : Nat → Bool} {x : Nat → Value} (R : R2 n items H w0 L x w) (h0 : L 2 = false) (hL : ∀ j, j ≠ 2 → L' j = L j) (v : Value) (o : Obj) (hv : mkOk (w.alloc o) w0.heap.size v n (.bool false) 4) (hb : v.ownBlock = some w.heap.size) : R2 n items H w0 L' (upd x 26 v) (w.alloc o) := by
  have U : ∀ s, s ≠ 26 → upd x 26 v s = x s := fun s hs => upd_ne x v hs
  have E : upd x 26 v 26 = v := upd_same x 26 v
  have n17 : L 17 = true → L 2 = true → False := fun _ h => by rw [h0] at h; cases h
  refine ⟨?_, ?_, ?_, ?_, ?_, ?_, ?_, ?_, ?_, ?_, ?_, ?_, ?_, ?_, ?_, ?_, ?_, ?_, ?_, ?_, ?_, ?_, ?_, ?_, ?_, ?_, ?_, ?_, ?_, ?_, ?_, ?_, ?_, ?_, ?_, ?_, ?_, ?_, ?_⟩
  · intro h; rw [hL 0 (by decide)] at h; rw [U 24 (by decide)]; exact R.p0 h
  · intro h; rw [hL 1 (by decide)] at h; rw [U 25 (by decide)]; exact R.p1 h
  · intro h; rw [hL 3 (by decide)] at h; rw [U 27 (by decide)]; exact R.p3 h
  · intro h; rw [hL 5 (by decide)] at h; rw [U 29 (by decide)]; exact R.p5 h
  · intro h; rw [hL 7 (by decide)] at h; rw [U 31 (by decide)]; exact R.p7 h
  · intro h; rw [hL 8 (by decide)] at h; rw [U 32 (by decide)]; exact R.p8 h
  · intro h; rw [hL 10 (by decide)] at h; rw [U 34 (by decide)]; exact R.p10 h
  · intro h; rw [hL 11 (by decide)] at h; rw [U 35 (by decide)]; exact R.p11 h
  · intro h; rw [hL 12 (by decide)] at h; rw [U 36 (by decide)]; exact R.p12 h
  · intro h; rw [hL 13 (by decide)] at h; rw [U 37 (by decide)]; exact R.p13 h
  · intro h; rw [hL 15 (by decide)] at h; rw [U 39 (by decide)]; exact R.p15 h
  · intro _; rw [E]; exact hv
  · intro h; rw [hL 4 (by decide)] at h; rw [U 28 (by decide)]; exact (R.m4 h).alloc _
  · intro h; rw [hL 6 (by decide)] at h; rw [U 30 (by decide)]; exact (R.m6 h).alloc _
  · intro h; rw [hL 9 (by decide)] at h; rw [U 33 (by decide)]; exact (R.m9 h).alloc _
  · intro h; rw [hL 14 (by decide)] at h; rw [U 38 (by decide)]; exact (R.m14 h).alloc _
  · intro h; rw [hL 16 (by decide)] at h; rw [U 40 (by decide)]; exact (R.m16 h).alloc _
  · intro h k; rw [hL 4 (by decide)] at k; rw [E, U 28 (by decide), hb]; exact fun e => (R.m4 k).lt e.symm
  · intro h k; rw [hL 6 (by decide)] at k; rw [E, U 30 (by decide), hb]; exact fun e => (R.m6 k).lt e.symm
  · intro h k; rw [hL 9 (by decide)] at k; rw [E, U 33 (by decide), hb]; exact fun e => (R.m9 k).lt e.symm
  · intro h k; rw [hL 14 (by decide)] at k; rw [E, U 38 (by decide), hb]; exact fun e => (R.m14 k).lt e.symm
  · intro h k; rw [hL 16 (by decide)] at k; rw [E, U 40 (by decide), hb]; exact fun e => (R.m16 k).lt e.symm
  · intro h k; rw [hL 4 (by decide)] at h; rw [hL 6 (by decide)] at k; rw [U 28 (by decide), U 30 (by decide)]; exact R.q4_6 h k
  · intro h k; rw [hL 4 (by decide)] at h; rw [hL 9 (by decide)] at k; rw [U 28 (by decide), U 33 (by decide)]; exact R.q4_9 h k
  · intro h k; rw [hL 4 (by decide)] at h; rw [hL 14 (by decide)] at k; rw [U 28 (by decide), U 38 (by decide)]; exact R.q4_14 h k
  · intro h k; rw [hL 4 (by decide)] at h; rw [hL 16 (by decide)] at k; rw [U 28 (by decide), U 40 (by decide)]; exact R.q4_16 h k
  · intro h k; rw [hL 6 (by decide)] at h; rw [hL 9 (by decide)] at k; rw [U 30 (by decide), U 33 (by decide)]; exact R.q6_9 h k
  · intro h k; rw [hL 6 (by decide)] at h; rw [hL 14 (by decide)] at k; rw [U 30 (by decide), U 38 (by decide)]; exact R.q6_14 h k
  · intro h k; rw [hL 6 (by decide)] at h; rw [hL 16 (by decide)] at k; rw [U 30 (by decide), U 40 (by decide)]; exact R.q6_16 h k
  · intro h k; rw [hL 9 (by decide)] at h; rw [hL 14 (by decide)] at k; rw [U 33 (by decide), U 38 (by decide)]; exact R.q9_14 h k
  · intro h k; rw [hL 9 (by decide)] at h; rw [hL 16 (by decide)] at k; rw [U 33 (by decide), U 40 (by decide)]; exact R.q9_16 h k
  · intro h k; rw [hL 14 (by decide)] at h; rw [hL 16 (by decide)] at k; rw [U 38 (by decide), U 40 (by decide)]; exact R.q14_16 h k
  · intro h; rw [hL 17 (by decide)] at h; exact (n17 h (R.c17 h).2.1).elim
  · intro h; rw [hL 17 (by decide)] at h; exact (n17 h (R.c17 h).2.1).elim
  · intro h; rw [hL 18 (by decide)] at h; exact (n17 (R.c18 h) (R.c17 (R.c18 h)).2.1).elim
  · intro h; rw [hL 18 (by decide)] at h; rw [hL 17 (by decide)]; exact R.c18 h
  · intro h; rw [hL 19 (by decide)] at h; rw [U 4 (by decide), U 42 (by decide)]; exact R.p19 h
  · intro h; rw [hL 19 (by decide)] at h; rw [hL 18 (by decide)]; exact R.c19 h
  · exact below_alloc R.bel _

theorem R2.s3 {n items H : Nat} {w0 w : World} {L L' : Nat → Bool} {x : Nat → Value} (R : R2 n items H w0 L x w) (h0 : L 3 = false) (hL : ∀ j, j ≠ 3 → L' j = L j) (v : Value) (hv : v = (.int .i64 (n : Int))) : R2 n items H w0 L' (upd x 27 v) w := by
  have U : ∀ s, s ≠ 27 → upd x 27 v s = x s := fun s hs => upd_ne x v hs
  have E : upd x 27 v 27 = v := upd_same x 27 v
  have n17 : L 17 = true → L 3 = true → False := fun _ h => by rw [h0] at h; cases h
  refine ⟨?_, ?_, ?_, ?_, ?_, ?_, ?_, ?_, ?_, ?_, ?_, ?_, ?_, ?_, ?_, ?_, ?_, ?_, ?_, ?_, ?_, ?_, ?_, ?_, ?_, ?_, ?_, ?_, ?_, ?_, ?_, ?_, ?_, ?_, ?_, ?_, ?_, ?_, ?_⟩
  · intro h; rw [hL 0 (by decide)] at h; rw [U 24 (by decide)]; exact R.p0 h
  · intro h; rw [hL 1 (by decide)] at h; rw [U 25 (by decide)]; exact R.p1 h
  · intro _; rw [E]; exact hv
  · intro h; rw [hL 5 (by decide)] at h; rw [U 29 (by decide)]; exact R.p5 h
  · intro h; rw [hL 7 (by decide)] at h; rw [U 31 (by decide)]; exact R.p7 h
  · intro h; rw [hL 8 (by decide)] at h; rw [U 32 (by decide)]; exact R.p8 h
  · intro h; rw [hL 10 (by decide)] at h; rw [U 34 (by decide)]; exact R.p10 h
  · intro h; rw [hL 11 (by decide)] at h; rw [U 35 (by decide)]; exact R.p11 h
  · intro h; rw [hL 12 (by decide)] at h; rw [U 36 (by decide)]; exact R.p12 h
  · intro h; rw [hL 13 (by decide)] at h; rw [U 37 (by decide)]; exact R.p13 h
  · intro h; rw [hL 15 (by decide)] at h; rw [U 39 (by decide)]; exact R.p15 h
  · intro h; rw [hL 2 (by decide)] at h; rw [U 26 (by decide)]; exact R.m2 h
  · intro h; rw [hL 4 (by decide)] at h; rw [U 28 (by decide)]; exact R.m4 h
  · intro h; rw [hL 6 (by decide)] at h; rw [U 30 (by decide)]; exact R.m6 h
  · intro h; rw [hL 9 (by decide)] at h; rw [U 33 (by decide)]; exact R.m9 h
  · intro h; rw [hL 14 (by decide)] at h; rw [U 38 (by decide)]; exact R.m14 h
  · intro h; rw [hL 16 (by decide)] at h; rw [U 40 (by decide)]; exact R.m16 h
  · intro h k; rw [hL 2 (by decide)] at h; rw [hL 4 (by decide)] at k; rw [U 26 (by decide), U 28 (by decide)]; exact R.q2_4 h k
  · intro h k; rw [hL 2 (by decide)] at h; rw [hL 6 (by decide)] at k; rw [U 26 (by decide), U 30 (by decide)]; exact R.q2_6 h k
  · intro h k; rw [hL 2 (by decide)] at h; rw [hL 9 (by decide)] at k; rw [U 26 (by decide), U 33 (by decide)]; exact R.q2_9 h k
  · intro h k; rw [hL 2 (by decide)] at h; rw [hL 14 (by decide)] at k; rw [U 26 (by decide), U 38 (by decide)]; exact R.q2_14 h k
  · intro h k; rw [hL 2 (by decide)] at h; rw [hL 16 (by decide)] at k; rw [U 26 (by decide), U 40 (by decide)]; exact R.q2_16 h k
  · intro h k; rw [hL 4 (by decide)] at h; rw [hL 6 (by decide)] at k; rw [U 28 (by decide), U 30 (by decide)]; exact R.q4_6 h k
  · intro h k; rw [hL 4 (by decide)] at h; rw [hL 9 (by decide)] at k; rw [U 28 (by decide), U 33 (by decide)]; exact R.q4_9 h k
  · intro h k; rw [hL 4 (by decide)] at h; rw [hL 14 (by decide)] at k; rw [U 28 (by decide), U 38 (by decide)]; exact R.q4_14 h k
  · intro h k; rw [hL 4 (by decide)] at h; rw [hL 16 (by decide)] at k; rw [U 28 (by decide), U 40 (by decide)]; exact R.q4_16 h k
  · intro h k; rw [hL 6 (by decide)] at h; rw [hL 9 (by decide)] at k; rw [U 30 (by decide), U 33 (by decide)]; exact R.q6_9 h k
  · intro h k; rw [hL 6 (by decide)] at h; rw [hL 14 (by decide)] at k; rw [U 30 (by decide), U 38 (by decide)]; exact R.q6_14 h k
  · intro h k; rw [hL 6 (by decide)] at h; rw [hL 16 (by decide)] at k; rw [U 30 (by decide), U 40 (by decide)]; exact R.q6_16 h k
  · intro h k; rw [hL 9 (by decide)] at h; rw [hL 14 (by decide)] at k; rw [U 33 (by decide), U 38 (by decide)]; exact R.q9_14 h k
  · intro h k; rw [hL 9 (by decide)] at h; rw [hL 16 (by decide)] at k; rw [U 33 (by decide), U 40 (by decide)]; exact R.q9_16 h k
  · intro h k; rw [hL 14 (by decide)] at h; rw [hL 16 (by decide)] at k; rw [U 38 (by decide), U 40 (by decide)]; exact R.q14_16 h k
  · intro h; rw [hL 17 (by decide)] at h; rw [U 41 (by decide), U 24 (by decide), U 26 (by decide), U 28 (by decide), U 30 (by decide), U 33 (by decide), U 38 (by decide), U 40 (by decide)]; exact R.p17 h
  · intro h; rw [hL 17 (by decide)] at h; rw [hL 0 (by decide), hL 2 (by decide), hL 4 (by decide), hL 6 (by decide), hL 9 (by decide), hL 14 (by decide), hL 16 (by decide)]; exact R.c17 h
  · intro h; rw [hL 18 (by decide)] at h; obtain ⟨S, s1, s2, s3, s4⟩ := R.p18 h; rw [U 42 (by decide), U 24 (by decide), U 26 (by decide), U 28 (by decide), U 30 (by decide), U 33 (by decide), U 38 (by decide), U 40 (by decide)]; exact ⟨S, s1, s2, s3, s4⟩
  · intro h; rw [hL 18 (by decide)] at h; rw [hL 17 (by decide)]; exact R.c18 h
  · intro h; rw [hL 19 (by decide)] at h; rw [U 4 (by decide), U 42 (by decide)]; exact R.p19 h
  · intro h; rw [hL 19 (by decide)] at h; rw [hL 18 (by decide)]; exact R.c19 h
  · exact R.bel

theorem R2.s4 {n items H : Nat} {w0 w : World} {L L' : Nat → Bool} {x : Nat → Value} (R : R2 n items H w0 L x w) (h0 : L 4 = false) (hL : ∀ j, j ≠ 4 → L' j = L j) (v : Value) (o : Obj) (hv : mkOk (w.alloc o) w0.heap.size v n (.slice none 0 0) 22) (hb : v.ownBlock = some w.heap.size) : R2 n items H w0 L' (upd x 28 v) (w.alloc o) := by
  have U : ∀ s, s ≠ 28 → upd x 28 v s = x s := fun s hs => upd_ne x v hs
  have E : upd x 28 v 28 = v := upd_same x 28 v
  have n17 : L 17 = true → L 4 = true → False := fun _ h => by rw [h0] at h; cases h
  refine ⟨?_, ?_, ?_, ?_, ?_, ?_, ?_, ?_, ?_, ?_, ?_, ?_, ?_, ?_, ?_, ?_, ?_, ?_, ?_, ?_, ?_, ?_, ?_, ?_, ?_, ?_, ?_, ?_, ?_, ?_, ?_, ?_, ?_, ?_, ?_, ?_, ?_, ?_, ?_⟩
  · intro h; rw [hL 0 (by decide)] at h; rw [U 24 (by decide)]; exact R.p0 h
  · intro h; rw [hL 1 (by decide)] at h; rw [U 25 (by decide)]; exact R.p1 h
  · intro h; rw [hL 3 (by decide)] at h; rw [U 27 (by decide)]; exact R.p3 h
  · intro h; rw [hL 5 (by decide)] at h; rw [U 29 (by decide)]; exact R.p5 h
  · intro h; rw [hL 7 (by decide)] at h; rw [U 31 (by decide)]; exact R.p7 h
  · intro h; rw [hL 8 (by decide)] at h; rw [U 32 (by decide)]; exact R.p8 h
  · intro h; rw [hL 10 (by decide)] at h; rw [U 34 (by decide)]; exact R.p10 h
  · intro h; rw [hL 11 (by decide)] at h; rw [U 35 (by decide)]; exact R.p11 h
  · intro h; rw [hL 12 (by decide)] at h; rw [U 36 (by decide)]; exact R.p12 h
  · intro h; rw [hL 13 (by decide)] at h; rw [U 37 (by decide)]; exact R.p13 h
  · intro h; rw [hL 15 (by decide)] at h; rw [U 39 (by decide)]; exact R.p15 h
  · intro h; rw [hL 2 (by decide)] at h; rw [U 26 (by decide)]; exact (R.m2 h).alloc _
  · intro _; rw [E]; exact hv
  · intro h; rw [hL 6 (by decide)] at h; rw [U 30 (by decide)]; exact (R.m6 h).alloc _
  · intro h; rw [hL 9 (by decide)] at h; rw [U 33 (by decide)]; exact (R.m9 h).alloc _
  · intro h; rw [hL 14 (by decide)] at h; rw [U 38 (by decide)]; exact (R.m14 h).alloc _
  · intro h; rw [hL 16 (by decide)] at h; rw [U 40 (by decide)]; exact (R.m16 h).alloc _
  · intro h k; rw [hL 2 (by decide)] at h; rw [E, U 26 (by decide), hb]; exact (R.m2 h).lt
  · intro h k; rw [hL 2 (by decide)] at h; rw [hL 6 (by decide)] at k; rw [U 26 (by decide), U 30 (by decide)]; exact R.q2_6 h k
  · intro h k; rw [hL 2 (by decide)] at h; rw [hL 9 (by decide)] at k; rw [U 26 (by decide), U 33 (by decide)]; exact R.q2_9 h k
  · intro h k; rw [hL 2 (by decide)] at h; rw [hL 14 (by decide)] at k; rw [U 26 (by decide), U 38 (by decide)]; exact R.q2_14 h k
  · intro h k; rw [hL 2 (by decide)] at h; rw [hL 16 (by decide)] at k; rw [U 26 (by decide), U 40 (by decide)]; exact R.q2_16 h k
  · intro h k; rw [hL 6 (by decide)] at k; rw [E, U 30 (by decide), hb]; exact fun e => (R.m6 k).lt e.symm
  · intro h k; rw [hL 9 (by decide)] at k; rw [E, U 33 (by decide), hb]; exact fun e => (R.m9 k).lt e.symm
  · intro h k; rw [hL 14 (by decide)] at k; rw [E, U 38 (by decide), hb]; exact fun e => (R.m14 k).lt e.symm
  · intro h k; rw [hL 16 (by decide)] at k; rw [E, U 40 (by decide), hb]; exact fun e => (R.m16 k).lt e.symm
  · intro h k; rw [hL 6 (by decide)] at h; rw [hL 9 (by decide)] at k; rw [U 30 (by decide), U 33 (by decide)]; exact R.q6_9 h k
  · intro h k; rw [hL 6 (by decide)] at h; rw [hL 14 (by decide)] at k; rw [U 30 (by decide), U 38 (by decide)]; exact R.q6_14 h k
  · intro h k; rw [hL 6 (by decide)] at h; rw [hL 16 (by decide)] at k; rw [U 30 (by decide), U 40 (by decide)]; exact R.q6_16 h k
  · intro h k; rw [hL 9 (by decide)] at h; rw [hL 14 (by decide)] at k; rw [U 33 (by decide), U 38 (by decide)]; exact R.q9_14 h k
  · intro h k; rw [hL 9 (by decide)] at h; rw [hL 16 (by decide)] at k; rw [U 33 (by decide), U 40 (by decide)]; exact R.q9_16 h k
  · intro h k; rw [hL 14 (by decide)] at h; rw [hL 16 (by decide)] at k; rw [U 38 (by decide), U 40 (by decide)]; exact R.q14_16 h k
  · intro h; rw [hL 17 (by decide)] at h; exact (n17 h (R.c17 h).2.2.1).elim
  · intro h; rw [hL 17 (by decide)] at h; exact (n17 h (R.c17 h).2.2.1).elim
  · intro h; rw [hL 18 (by decide)] at h; exact (n17 (R.c18 h) (R.c17 (R.c18 h)).2.2.1).elim
  · intro h; rw [hL 18 (by decide)] at h; rw [hL 17 (by decide)]; exact R.c18 h
  · intro h; rw [hL 19 (by decide)] at h; rw [U 4 (by decide), U 42 (by decide)]; exact R.p19 h
  · intro h; rw [hL 19 (by decide)] at h; rw [hL 18 (by decide)]; exact R.c19 h
  · exact below_alloc R.bel _

theorem R2.s5 {n items H : Nat} {w0 w : World} {L L' : Nat → Bool} {x : Nat → Value} (R : R2 n items H w0 L x w) (h0 : L 5 = false) (hL : ∀ j, j ≠ 5 → L' j = L j) (v : Value) (hv : v = (.int .i64 (n : Int))) : R2 n items H w0 L' (upd x 29 v) w := by
  have U : ∀ s, s ≠ 29 → upd x 29 v s = x s := fun s hs => upd_ne x v hs
  have E : upd x 29 v 29 = v := upd_same x 29 v
  have n17 : L 17 = true → L 5 = true → False := fun _ h => by rw [h0] at h; cases h
  refine ⟨?_, ?_, ?_, ?_, ?_, ?_, ?_, ?_, ?_, ?_, ?_, ?_, ?_, ?_, ?_, ?_, ?_, ?_, ?_, ?_, ?_, ?_, ?_, ?_, ?_, ?_, ?_, ?_, ?_, ?_, ?_, ?_, ?_, ?_, ?_, ?_, ?_, ?_, ?_⟩
  · intro h; rw [hL 0 (by decide)] at h; rw [U 24 (by decide)]; exact R.p0 h
  · intro h; rw [hL 1 (by decide)] at h; rw [U 25 (by decide)]; exact R.p1 h
  · intro h; rw [hL 3 (by decide)] at h; rw [U 27 (by decide)]; exact R.p3 h
  · intro _; rw [E]; exact hv
  · intro h; rw [hL 7 (by decide)] at h; rw [U 31 (by decide)]; exact R.p7 h
  · intro h; rw [hL 8 (by decide)] at h; rw [U 32 (by decide)]; exact R.p8 h
  · intro h; rw [hL 10 (by decide)] at h; rw [U 34 (by decide)]; exact R.p10 h
  · intro h; rw [hL 11 (by decide)] at h; rw [U 35 (by decide)]; exact R.p11 h
  · intro h; rw [hL 12 (by decide)] at h; rw [U 36 (by decide)]; exact R.p12 h
  · intro h; rw [hL 13 (by decide)] at h; rw [U 37 (by decide)]; exact R.p13 h
  · intro h; rw [hL 15 (by decide)] at h; rw [U 39 (by decide)]; exact R.p15 h
  · intro h; rw [hL 2 (by decide)] at h; rw [U 26 (by decide)]; exact R.m2 h
  · intro h; rw [hL 4 (by decide)] at h; rw [U 28 (by decide)]; exact R.m4 h
  · intro h; rw [hL 6 (by decide)] at h; rw [U 30 (by decide)]; exact R.m6 h
  · intro h; rw [hL 9 (by decide)] at h; rw [U 33 (by decide)]; exact R.m9 h
  · intro h; rw [hL 14 (by decide)] at h; rw [U 38 (by decide)]; exact R.m14 h
  · intro h; rw [hL 16 (by decide)] at h; rw [U 40 (by decide)]; exact R.m16 h
  · intro h k; rw [hL 2 (by decide)] at h; rw [hL 4 (by decide)] at k; rw [U 26 (by decide), U 28 (by decide)]; exact R.q2_4 h k
  · intro h k; rw [hL 2 (by decide)] at h; rw [hL 6 (by decide)] at k; rw [U 26 (by decide), U 30 (by decide)]; exact R.q2_6 h k
  · intro h k; rw [hL 2 (by decide)] at h; rw [hL 9 (by decide)] at k; rw [U 26 (by decide), U 33 (by decide)]; exact R.q2_9 h k
  · intro h k; rw [hL 2 (by decide)] at h; rw [hL 14 (by decide)] at k; rw [U 26 (by decide), U 38 (by decide)]; exact R.q2_14 h k
  · intro h k; rw [hL 2 (by decide)] at h; rw [hL 16 (by decide)] at k; rw [U 26 (by decide), U 40 (by decide)]; exact R.q2_16 h k
  · intro h k; rw [hL 4 (by decide)] at h; rw [hL 6 (by decide)] at k; rw [U 28 (by decide), U 30 (by decide)]; exact R.q4_6 h k
  · intro h k; rw [hL 4 (by decide)] at h; rw [hL 9 (by decide)] at k; rw [U 28 (by decide), U 33 (by decide)]; exact R.q4_9 h k
  · intro h k; rw [hL 4 (by decide)] at h; rw [hL 14 (by decide)] at k; rw [U 28 (by decide), U 38 (by decide)]; exact R.q4_14 h k
  · intro h k; rw [hL 4 (by decide)] at h; rw [hL 16 (by decide)] at k; rw [U 28 (by decide), U 40 (by decide)]; exact R.q4_16 h k
  · intro h k; rw [hL 6 (by decide)] at h; rw [hL 9 (by decide)] at k; rw [U 30 (by decide), U 33 (by decide)]; exact R.q6_9 h k
  · intro h k; rw [hL 6 (by decide)] at h; rw [hL 14 (by decide)] at k; rw [U 30 (by decide), U 38 (by decide)]; exact R.q6_14 h k
  · intro h k; rw [hL 6 (by decide)] at h; rw [hL 16 (by decide)] at k; rw [U 30 (by decide), U 40 (by decide)]; exact R.q6_16 h k
  · intro h k; rw [hL 9 (by decide)] at h; rw [hL 14 (by decide)] at k; rw [U 33 (by decide), U 38 (by decide)]; exact R.q9_14 h k
  · intro h k; rw [hL 9 (by decide)] at h; rw [hL 16 (by decide)] at k; rw [U 33 (by decide), U 40 (by decide)]; exact R.q9_16 h k
  · intro h k; rw [hL 14 (by decide)] at h; rw [hL 16 (by decide)] at k; rw [U 38 (by decide), U 40 (by decide)]; exact R.q14_16 h k
  · intro h; rw [hL 17 (by decide)] at h; rw [U 41 (by decide), U 24 (by decide), U 26 (by decide), U 28 (by decide), U 30 (by decide), U 33 (by decide), U 38 (by decide), U 40 (by decide)]; exact R.p17 h
  · intro h; rw [hL 17 (by decide)] at h; rw [hL 0 (by decide), hL 2 (by decide), hL 4 (by decide), hL 6 (by decide), hL 9 (by decide), hL 14 (by decide), hL 16 (by decide)]; exact R.c17 h
  · intro h; rw [hL 18 (by decide)] at h; obtain ⟨S, s1, s2, s3, s4⟩ := R.p18 h; rw [U 42 (by decide), U 24 (by decide), U 26 (by decide), U 28 (by decide), U 30 (by decide), U 33 (by decide), U 38 (by decide), U 40 (by decide)]; exact ⟨S, s1, s2, s3, s4⟩
  · intro h; rw [hL 18 (by decide)] at h; rw [hL 17 (by decide)]; exact R.c18 h
  · intro h; rw [hL 19 (by decide)] at h; rw [U 4 (by decide), U 42 (by decide)]; exact R.p19 h
  · intro h; rw [hL 19 (by decide)] at h; rw [hL 18 (by decide)]; exact R.c19 h
  · exact R.bel

theorem R2.s6 {n items H : Nat} {w0 w : World} {L L' : Nat → Bool} {x : Nat → Value} (R : R2 n items H w0 L x w) (h0 : L 6 = false) (hL : ∀ j, j ≠ 6 → L' j = L j) (v : Value) (o : Obj) (hv : mkOk (w.alloc o) w0.heap.size v n (.slice none 0 0) 22) (hb : v.ownBlock = some w.heap.size) : R2 n items H w0 L' (upd x 30 v) (w.alloc o) := by
  have U : ∀ s, s ≠ 30 → upd x 30 v s = x s := fun s hs => upd_ne x v hs
  have E : upd x 30 v 30 = v := upd_same x 30 v
  have n17 : L 17 = true → L 6 = true → False := fun _ h => by rw [h0] at h; cases h
  refine ⟨?_, ?_, ?_, ?_, ?_, ?_, ?_, ?_, ?_, ?_, ?_, ?_, ?_, ?_, ?_, ?_, ?_, ?_, ?_, ?_, ?_, ?_, ?_, ?_, ?_, ?_, ?_, ?_, ?_, ?_, ?_, ?_, ?_, ?_, ?_, ?_, ?_, ?_, ?_⟩
  · intro h; rw [hL 0 (by decide)] at h; rw [U 24 (by decide)]; exact R.p0 h
  · intro h; rw [hL 1 (by decide)] at h; rw [U 25 (by decide)]; exact R.p1 h
  · intro h; rw [hL 3 (by decide)] at h; rw [U 27 (by decide)]; exact R.p3 h
  · intro h; rw [hL 5 (by decide)] at h; rw [U 29 (by decide)]; exact R.p5 h
  · intro h; rw [hL 7 (by decide)] at h; rw [U 31 (by decide)]; exact R.p7 h
  · intro h; rw [hL 8 (by decide)] at h; rw [U 32 (by decide)]; exact R.p8 h
  · intro h; rw [hL 10 (by decide)] at h; rw [U 34 (by decide)]; exact R.p10 h
  · intro h; rw [hL 11 (by decide)] at h; rw [U 35 (by decide)]; exact R.p11 h
  · intro h; rw [hL 12 (by decide)] at h; rw [U 36 (by decide)]; exact R.p12 h
  · intro h; rw [hL 13 (by decide)] at h; rw [U 37 (by decide)]; exact R.p13 h
  · intro h; rw [hL 15 (by decide)] at h; rw [U 39 (by decide)]; exact R.p15 h
  · intro h; rw [hL 2 (by decide)] at h; rw [U 26 (by decide)]; exact (R.m2 h).alloc _
  · intro h; rw [hL 4 (by decide)] at h; rw [U 28 (by decide)]; exact (R.m4 h).alloc _
  · intro _; rw [E]; exact hv
  · intro h; rw [hL 9 (by decide)] at h; rw [U 33 (by decide)]; exact (R.m9 h).alloc _
  · intro h; rw [hL 14 (by decide)] at h; rw [U 38 (by decide)]; exact (R.m14 h).alloc _
  · intro h; rw [hL 16 (by decide)] at h; rw [U 40 (by decide)]; exact (R.m16 h).alloc _
  · intro h k; rw [hL 2 (by decide)] at h; rw [hL 4 (by decide)] at k; rw [U 26 (by decide), U 28 (by decide)]; exact R.q2_4 h k
  · intro h k; rw [hL 2 (by decide)] at h; rw [E, U 26 (by decide), hb]; exact (R.m2 h).lt
  · intro h k; rw [hL 2 (by decide)] at h; rw [hL 9 (by decide)] at k; rw [U 26 (by decide), U 33 (by decide)]; exact R.q2_9 h k
  · intro h k; rw [hL 2 (by decide)] at h; rw [hL 14 (by decide)] at k; rw [U 26 (by decide), U 38 (by decide)]; exact R.q2_14 h k
  · intro h k; rw [hL 2 (by decide)] at h; rw [hL 16 (by decide)] at k; rw [U 26 (by decide), U 40 (by decide)]; exact R.q2_16 h k
  · intro h k; rw [hL 4 (by decide)] at h; rw [E, U 28 (by decide), hb]; exact (R.m4 h).lt
  · intro h k; rw [hL 4 (by decide)] at h; rw [hL 9 (by decide)] at k; rw [U 28 (by decide), U 33 (by decide)]; exact R.q4_9 h k
  · intro h k; rw [hL 4 (by decide)] at h; rw [hL 14 (by decide)] at k; rw [U 28 (by decide), U 38 (by decide)]; exact R.q4_14 h k
  · intro h k; rw [hL 4 (by decide)] at h; rw [hL 16 (by decide)] at k; rw [U 28 (by decide), U 40 (by decide)]; exact R.q4_16 h k
  · intro h k; rw [hL 9 (by decide)] at k; rw [E, U 33 (by decide), hb]; exact fun e => (R.m9 k).lt e.symm
  · intro h k; rw [hL 14 (by decide)] at k; rw [E, U 38 (by decide), hb]; exact fun e => (R.m14 k).lt e.symm
  · intro h k; rw [hL 16 (by decide)] at k; rw [E, U 40 (by decide), hb]; exact fun e => (R.m16 k).lt e.symm
  · intro h k; rw [hL 9 (by decide)] at h; rw [hL 14 (by decide)] at k; rw [U 33 (by decide), U 38 (by decide)]; exact R.q9_14 h k
  · intro h k; rw [hL 9 (by decide)] at h; rw [hL 16 (by decide)] at k; rw [U 33 (by decide), U 40 (by decide)]; exact R.q9_16 h k
  · intro h k; rw [hL 14 (by decide)] at h; rw [hL 16 (by decide)] at k; rw [U 38 (by decide), U 40 (by decide)]; exact R.q14_16 h k
  · intro h; rw [hL 17 (by decide)] at h; exact (n17 h (R.c17 h).2.2.2.1).elim
  · intro h; rw [hL 17 (by decide)] at h; exact (n17 h (R.c17 h).2.2.2.1).elim
  · intro h; rw [hL 18 (by decide)] at h; exact (n17 (R.c18 h) (R.c17 (R.c18 h)).2.2.2.1).elim
  · intro h; rw [hL 18 (by decide)] at h; rw [hL 17 (by decide)]; exact R.c18 h
  · intro h; rw [hL 19 (by decide)] at h; rw [U 4 (by decide), U 42 (by decide)]; exact R.p19 h
  · intro h; rw [hL 19 (by decide)] at h; rw [hL 18 (by decide)]; exact R.c19 h
  · exact below_alloc R.bel _

theorem R2.s7 {n items H : Nat} {w0 w : World} {L L' : Nat → Bool} {x : Nat → Value} (R : R2 n items H w0 L x w) (h0 : L 7 = false) (hL : ∀ j, j ≠ 7 → L' j = L j) (v : Value) (hv : v = (.int .i64 (n : Int))) : R2 n items H w0 L' (upd x 31 v) w := by
  have U : ∀ s, s ≠ 31 → upd x 31 v s = x s := fun s hs => upd_ne x v hs
  have E : upd x 31 v 31 = v := upd_same x 31 v
  have n17 : L 17 = true → L 7 = true → False := fun _ h => by rw [h0] at h; cases h
  refine ⟨?_, ?_, ?_, ?_, ?_, ?_, ?_, ?_, ?_, ?_, ?_, ?_, ?_, ?_, ?_, ?_, ?_, ?_, ?_, ?_, ?_, ?_, ?_, ?_, ?_, ?_, ?_, ?_, ?_, ?_, ?_, ?_, ?_, ?_, ?_, ?_, ?_, ?_, ?_⟩
  · intro h; rw [hL 0 (by decide)] at h; rw [U 24 (by decide)]; exact R.p0 h
  · intro h; rw [hL 1 (by decide)] at h; rw [U 25 (by decide)]; exact R.p1 h
  · intro h; rw [hL 3 (by decide)] at h; rw [U 27 (by decide)]; exact R.p3 h
  · intro h; rw [hL 5 (by decide)] at h; rw [U 29 (by decide)]; exact R.p5 h
  · intro _; rw [E]; exact hv
  · intro h; rw [hL 8 (by decide)] at h; rw [U 32 (by decide)]; exact R.p8 h
  · intro h; rw [hL 10 (by decide)] at h; rw [U 34 (by decide)]; exact R.p10 h
  · intro h; rw [hL 11 (by decide)] at h; rw [U 35 (by decide)]; exact R.p11 h
  · intro h; rw [hL 12 (by decide)] at h; rw [U 36 (by decide)]; exact R.p12 h
  · intro h; rw [hL 13 (by decide)] at h; rw [U 37 (by decide)]; exact R.p13 h
  · intro h; rw [hL 15 (by decide)] at h; rw [U 39 (by decide)]; exact R.p15 h
  · intro h; rw [hL 2 (by decide)] at h; rw [U 26 (by decide)]; exact R.m2 h
  · intro h; rw [hL 4 (by decide)] at h; rw [U 28 (by decide)]; exact R.m4 h
  · intro h; rw [hL 6 (by decide)] at h; rw [U 30 (by decide)]; exact R.m6 h
  · intro h; rw [hL 9 (by decide)] at h; rw [U 33 (by decide)]; exact R.m9 h
  · intro h; rw [hL 14 (by decide)] at h; rw [U 38 (by decide)]; exact R.m14 h
  · intro h; rw [hL 16 (by decide)] at h; rw [U 40 (by decide)]; exact R.m16 h
  · intro h k; rw [hL 2 (by decide)] at h; rw [hL 4 (by decide)] at k; rw [U 26 (by decide), U 28 (by decide)]; exact R.q2_4 h k
  · intro h k; rw [hL 2 (by decide)] at h; rw [hL 6 (by decide)] at k; rw [U 26 (by decide), U 30 (by decide)]; exact R.q2_6 h k
  · intro h k; rw [hL 2 (by decide)] at h; rw [hL 9 (by decide)] at k; rw [U 26 (by decide), U 33 (by decide)]; exact R.q2_9 h k
  · intro h k; rw [hL 2 (by decide)] at h; rw [hL 14 (by decide)] at k; rw [U 26 (by decide), U 38 (by decide)]; exact R.q2_14 h k
  · intro h k; rw [hL 2 (by decide)] at h; rw [hL 16 (by decide)] at k; rw [U 26 (by decide), U 40 (by decide)]; exact R.q2_16 h k
  · intro h k; rw [hL 4 (by decide)] at h; rw [hL 6 (by decide)] at k; rw [U 28 (by decide), U 30 (by decide)]; exact R.q4_6 h k
  · intro h k; rw [hL 4 (by decide)] at h; rw [hL 9 (by decide)] at k; rw [U 28 (by decide), U 33 (by decide)]; exact R.q4_9 h k
  · intro h k; rw [hL 4 (by decide)] at h; rw [hL 14 (by decide)] at k; rw [U 28 (by decide), U 38 (by decide)]; exact R.q4_14 h k
  · intro h k; rw [hL 4 (by decide)] at h; rw [hL 16 (by decide)] at k; rw [U 28 (by decide), U 40 (by decide)]; exact R.q4_16 h k
  · intro h k; rw [hL 6 (by decide)] at h; rw [hL 9 (by decide)] at k; rw [U 30 (by decide), U 33 (by decide)]; exact R.q6_9 h k
  · intro h k; rw [hL 6 (by decide)] at h; rw [hL 14 (by decide)] at k; rw [U 30 (by decide), U 38 (by decide)]; exact R.q6_14 h k
  · intro h k; rw [hL 6 (by decide)] at h; rw [hL 16 (by decide)] at k; rw [U 30 (by decide), U 40 (by decide)]; exact R.q6_16 h k
  · intro h k; rw [hL 9 (by decide)] at h; rw [hL 14 (by decide)] at k; rw [U 33 (by decide), U 38 (by decide)]; exact R.q9_14 h k
  · intro h k; rw [hL 9 (by decide)] at h; rw [hL 16 (by decide)] at k; rw [U 33 (by decide), U 40 (by decide)]; exact R.q9_16 h k
  · intro h k; rw [hL 14 (by decide)] at h; rw [hL 16 (by decide)] at k; rw [U 38 (by decide), U 40 (by decide)]; exact R.q14_16 h k
  · intro h; rw [hL 17 (by decide)] at h; rw [U 41 (by decide), U 24 (by decide), U 26 (by decide), U 28 (by decide), U 30 (by decide), U 33 (by decide), U 38 (by decide), U 40 (by decide)]; exact R.p17 h
  · intro h; rw [hL 17 (by decide)] at h; rw [hL 0 (by decide), hL 2 (by decide), hL 4 (by decide), hL 6 (by decide), hL 9 (by decide), hL 14 (by decide), hL 16 (by decide)]; exact R.c17 h
  · intro h; rw [hL 18 (by decide)] at h; obtain ⟨S, s1, s2, s3, s4⟩ := R.p18 h; rw [U 42 (by decide), U 24 (by decide), U 26 (by decide), U 28 (by decide), U 30 (by decide), U 33 (by decide), U 38 (by decide), U 40 (by decide)]; exact ⟨S, s1, s2, s3, s4⟩
  · intro h; rw [hL 18 (by decide)] at h; rw [hL 17 (by decide)]; exact R.c18 h
  · intro h; rw [hL 19 (by decide)] at h; rw [U 4 (by decide), U 42 (by decide)]; exact R.p19 h
  · intro h; rw [hL 19 (by decide)] at h; rw [hL 18 (by decide)]; exact R.c19 h
  · exact R.bel

theorem R2.s8 {n items H : Nat} {w0 w : World} {L L' : Nat → Bool} {x : Nat → Value} (R : R2 n items H w0 L x w) (h0 : L 8 = false) (hL : ∀ j, j ≠ 8 → L' j = L j) (v : Value) (hv : v = (.int .i64 ((n : Int) + 1))) : R2 n items H w0 L' (upd x 32 v) w := by
  have U : ∀ s, s ≠ 32 → upd x 32 v s = x s := fun s hs => upd_ne x v hs
  have E : upd x 32 v 32 = v := upd_same x 32 v
  have n17 : L 17 = true → L 8 = true → False := fun _ h => by rw [h0] at h; cases h
  refine ⟨?_, ?_, ?_, ?_, ?_, ?_, ?_, ?_, ?_, ?_, ?_, ?_, ?_, ?_, ?_, ?_, ?_, ?_, ?_, ?_, ?_, ?_, ?_, ?_, ?_, ?_, ?_, ?_, ?_, ?_, ?_, ?_, ?_, ?_, ?_, ?_, ?_, ?_, ?_⟩
  · intro h; rw [hL 0 (by decide)] at h; rw [U 24 (by decide)]; exact R.p0 h
  · intro h; rw [hL 1 (by decide)] at h; rw [U 25 (by decide)]; exact R.p1 h
  · intro h; rw [hL 3 (by decide)] at h; rw [U 27 (by decide)]; exact R.p3 h
  · intro h; rw [hL 5 (by decide)] at h; rw [U 29 (by decide)]; exact R.p5 h
  · intro h; rw [hL 7 (by decide)] at h; rw [U 31 (by decide)]; exact R.p7 h
  · intro _; rw [E]; exact hv
  · intro h; rw [hL 10 (by decide)] at h; rw [U 34 (by decide)]; exact R.p10 h
  · intro h; rw [hL 11 (by decide)] at h; rw [U 35 (by decide)]; exact R.p11 h
  · intro h; rw [hL 12 (by decide)] at h; rw [U 36 (by decide)]; exact R.p12 h
  · intro h; rw [hL 13 (by decide)] at h; rw [U 37 (by decide)]; exact R.p13 h
  · intro h; rw [hL 15 (by decide)] at h; rw [U 39 (by decide)]; exact R.p15 h
  · intro h; rw [hL 2 (by decide)] at h; rw [U 26 (by decide)]; exact R.m2 h
  · intro h; rw [hL 4 (by decide)] at h; rw [U 28 (by decide)]; exact R.m4 h
  · intro h; rw [hL 6 (by decide)] at h; rw [U 30 (by decide)]; exact R.m6 h
  · intro h; rw [hL 9 (by decide)] at h; rw [U 33 (by decide)]; exact R.m9 h
  · intro h; rw [hL 14 (by decide)] at h; rw [U 38 (by decide)]; exact R.m14 h
  · intro h; rw [hL 16 (by decide)] at h; rw [U 40 (by decide)]; exact R.m16 h
  · intro h k; rw [hL 2 (by decide)] at h; rw [hL 4 (by decide)] at k; rw [U 26 (by decide), U 28 (by decide)]; exact R.q2_4 h k
  · intro h k; rw [hL 2 (by decide)] at h; rw [hL 6 (by decide)] at k; rw [U 26 (by decide), U 30 (by decide)]; exact R.q2_6 h k
  · intro h k; rw [hL 2 (by decide)] at h; rw [hL 9 (by decide)] at k; rw [U 26 (by decide), U 33 (by decide)]; exact R.q2_9 h k
  · intro h k; rw [hL 2 (by decide)] at h; rw [hL 14 (by decide)] at k; rw [U 26 (by decide), U 38 (by decide)]; exact R.q2_14 h k
  · intro h k; rw [hL 2 (by decide)] at h; rw [hL 16 (by decide)] at k; rw [U 26 (by decide), U 40 (by decide)]; exact R.q2_16 h k
  · intro h k; rw [hL 4 (by decide)] at h; rw [hL 6 (by decide)] at k; rw [U 28 (by decide), U 30 (by decide)]; exact R.q4_6 h k
  · intro h k; rw [hL 4 (by decide)] at h; rw [hL 9 (by decide)] at k; rw [U 28 (by decide), U 33 (by decide)]; exact R.q4_9 h k
  · intro h k; rw [hL 4 (by decide)] at h; rw [hL 14 (by decide)] at k; rw [U 28 (by decide), U 38 (by decide)]; exact R.q4_14 h k
  · intro h k; rw [hL 4 (by decide)] at h; rw [hL 16 (by decide)] at k; rw [U 28 (by decide), U 40 (by decide)]; exact R.q4_16 h k
  · intro h k; rw [hL 6 (by decide)] at h; rw [hL 9 (by decide)] at k; rw [U 30 (by decide), U 33 (by decide)]; exact R.q6_9 h k
  · intro h k; rw [hL 6 (by decide)] at h; rw [hL 14 (by decide)] at k; rw [U 30 (by decide), U 38 (by decide)]; exact R.q6_14 h k
  · intro h k; rw [hL 6 (by decide)] at h; rw [hL 16 (by decide)] at k; rw [U 30 (by decide), U 40 (by decide)]; exact R.q6_16 h k
  · intro h k; rw [hL 9 (by decide)] at h; rw [hL 14 (by decide)] at k; rw [U 33 (by decide), U 38 (by decide)]; exact R.q9_14 h k
  · intro h k; rw [hL 9 (by decide)] at h; rw [hL 16 (by decide)] at k; rw [U 33 (by decide), U 40 (by decide)]; exact R.q9_16 h k
  · intro h k; rw [hL 14 (by decide)] at h; rw [hL 16 (by decide)] at k; rw [U 38 (by decide), U 40 (by decide)]; exact R.q14_16 h k
  · intro h; rw [hL 17 (by decide)] at h; rw [U 41 (by decide), U 24 (by decide), U 26 (by decide), U 28 (by decide), U 30 (by decide), U 33 (by decide), U 38 (by decide), U 40 (by decide)]; exact R.p17 h
  · intro h; rw [hL 17 (by decide)] at h; rw [hL 0 (by decide), hL 2 (by decide), hL 4 (by decide), hL 6 (by decide), hL 9 (by decide), hL 14 (by decide), hL 16 (by decide)]; exact R.c17 h
  · intro h; rw [hL 18 (by decide)] at h; obtain ⟨S, s1, s2, s3, s4⟩ := R.p18 h; rw [U 42 (by decide), U 24 (by decide), U 26 (by decide), U 28 (by decide), U 30 (by decide), U 33 (by decide), U 38 (by decide), U 40 (by decide)]; exact ⟨S, s1, s2, s3, s4⟩
  · intro h; rw [hL 18 (by decide)] at h; rw [hL 17 (by decide)]; exact R.c18 h
  · intro h; rw [hL 19 (by decide)] at h; rw [U 4 (by decide), U 42 (by decide)]; exact R.p19 h
  · intro h; rw [hL 19 (by decide)] at h; rw [hL 18 (by decide)]; exact R.c19 h
  · exact R.bel

theorem R2.s9 {n items H : Nat} {w0 w : World} {L L' : Nat → Bool} {x : Nat → Value} (R : R2 n items H w0 L x w) (h0 : L 9 = false) (hL : ∀ j, j ≠ 9 → L' j = L j) (v : Value) (o : Obj) (hv : mkOk (w.alloc o) w0.heap.size v (n + 1) (.int .i64 0) 3) (hb : v.ownBlock = some w.heap.size) : R2 n items H w0 L' (upd x 33 v) (w.alloc o) := by
  have U : ∀ s, s ≠ 33 → upd x 33 v s = x s := fun s hs => upd_ne x v hs
  have E : upd x 33 v 33 = v := upd_same x 33 v
  have n17 : L 17 = true → L 9 = true → False := fun _ h => by rw [h0] at h; cases h
  refine ⟨?_, ?_, ?_, ?_, ?_, ?_, ?_, ?_, ?_, ?_, ?_, ?_, ?_, ?_, ?_, ?_, ?_, ?_, ?_, ?_, ?_, ?_, ?_, ?_, ?_, ?_, ?_, ?_, ?_, ?_, ?_, ?_, ?_, ?_, ?_, ?_, ?_, ?_, ?_⟩
  · intro h; rw [hL 0 (by decide)] at h; rw [U 24 (by decide)]; exact R.p0 h
  · intro h; rw [hL 1 (by decide)] at h; rw [U 25 (by decide)]; exact R.p1 h
  · intro h; rw [hL 3 (by decide)] at h; rw [U 27 (by decide)]; exact R.p3 h
  · intro h; rw [hL 5 (by decide)] at h; rw [U 29 (by decide)]; exact R.p5 h
  · intro h; rw [hL 7 (by decide)] at h; rw [U 31 (by decide)]; exact R.p7 h
  · intro h; rw [hL 8 (by decide)] at h; rw [U 32 (by decide)]; exact R.p8 h
  · intro h; rw [hL 10 (by decide)] at h; rw [U 34 (by decide)]; exact R.p10 h
  · intro h; rw [hL 11 (by decide)] at h; rw [U 35 (by decide)]; exact R.p11 h
  · intro h; rw [hL 12 (by decide)] at h; rw [U 36 (by decide)]; exact R.p12 h
  · intro h; rw [hL 13 (by decide)] at h; rw [U 37 (by decide)]; exact R.p13 h
  · intro h; rw [hL 15 (by decide)] at h; rw [U 39 (by decide)]; exact R.p15 h
  · intro h; rw [hL 2 (by decide)] at h; rw [U 26 (by decide)]; exact (R.m2 h).alloc _
  · intro h; rw [hL 4 (by decide)] at h; rw [U 28 (by decide)]; exact (R.m4 h).alloc _
  · intro h; rw [hL 6 (by decide)] at h; rw [U 30 (by decide)]; exact (R.m6 h).alloc _
  · intro _; rw [E]; exact hv
  · intro h; rw [hL 14 (by decide)] at h; rw [U 38 (by decide)]; exact (R.m14 h).alloc _
  · intro h; rw [hL 16 (by decide)] at h; rw [U 40 (by decide)]; exact (R.m16 h).alloc _
  · intro h k; rw [hL 2 (by decide)] at h; rw [hL 4 (by decide)] at k; rw [U 26 (by decide), U 28 (by decide)]; exact R.q2_4 h k
  · intro h k; rw [hL 2 (by decide)] at h; rw [hL 6 (by decide)] at k; rw [U 26 (by decide), U 30 (by decide)]; exact R.q2_6 h k
  · intro h k; rw [hL 2 (by decide)] at h; rw [E, U 26 (by decide), hb]; exact (R.m2 h).lt
  · intro h k; rw [hL 2 (by decide)] at h; rw [hL 14 (by decide)] at k; rw [U 26 (by decide), U 38 (by decide)]; exact R.q2_14 h k
  · intro h k; rw [hL 2 (by decide)] at h; rw [hL 16 (by decide)] at k; rw [U 26 (by decide), U 40 (by decide)]; exact R.q2_16 h k
  · intro h k; rw [hL 4 (by decide)] at h; rw [hL 6 (by decide)] at k; rw [U 28 (by decide), U 30 (by decide)]; exact R.q4_6 h k
  · intro h k; rw [hL 4 (by decide)] at h; rw [E, U 28 (by decide), hb]; exact (R.m4 h).lt
  · intro h k; rw [hL 4 (by decide)] at h; rw [hL 14 (by decide)] at k; rw [U 28 (by decide), U 38 (by decide)]; exact R.q4_14 h k
  · intro h k; rw [hL 4 (by decide)] at h; rw [hL 16 (by decide)] at k; rw [U 28 (by decide), U 40 (by decide)]; exact R.q4_16 h k
  · intro h k; rw [hL 6 (by decide)] at h; rw [E, U 30 (by decide), hb]; exact (R.m6 h).lt
  · intro h k; rw [hL 6 (by decide)] at h; rw [hL 14 (by decide)] at k; rw [U 30 (by decide), U 38 (by decide)]; exact R.q6_14 h k
  · intro h k; rw [hL 6 (by decide)] at h; rw [hL 16 (by decide)] at k; rw [U 30 (by decide), U 40 (by decide)]; exact R.q6_16 h k
  · intro h k; rw [hL 14 (by decide)] at k; rw [E, U 38 (by decide), hb]; exact fun e => (R.m14 k).lt e.symm
  · intro h k; rw [hL 16 (by decide)] at k; rw [E, U 40 (by decide), hb]; exact fun e => (R.m16 k).lt e.symm
  · intro h k; rw [hL 14 (by decide)] at h; rw [hL 16 (by decide)] at k; rw [U 38 (by decide), U 40 (by decide)]; exact R.q14_16 h k
  · intro h; rw [hL 17 (by decide)] at h; exact (n17 h (R.c17 h).2.2.2.2.1).elim
  · intro h; rw [hL 17 (by decide)] at h; exact (n17 h (R.c17 h).2.2.2.2.1).elim
  · intro h; rw [hL 18 (by decide)] at h; exact (n17 (R.c18 h) (R.c17 (R.c18 h)).2.2.2.2.1).elim
  · intro h; rw [hL 18 (by decide)] at h; rw [hL 17 (by decide)]; exact R.c18 h
  · intro h; rw [hL 19 (by decide)] at h; rw [U 4 (by decide), U 42 (by decide)]; exact R.p19 h
  · intro h; rw [hL 19 (by decide)] at h; rw [hL 18 (by decide)]; exact R.c19 h
  · exact below_alloc R.bel _

theorem R2.s10 {n items H : Nat} {w0 w : World} {L L' : Nat → Bool} {x : Nat → Value} (R : R2 n items H w0 L x w) (h0 : L 10 = false) (hL : ∀ j, j ≠ 10 → L' j = L j) (v : Value) (hv : v = (.pointer (some ⟨H, 0, none⟩))) : R2 n items H w0 L' (upd x 34 v) w := by
  have U : ∀ s, s ≠ 34 → upd x 34 v s = x s := fun s hs => upd_ne x v hs
  have E : upd x 34 v 34 = v := upd_same x 34 v
  have n17 : L 17 = true → L 10 = true → False := fun _ h => by rw [h0] at h; cases h
  refine ⟨?_, ?_, ?_, ?_, ?_, ?_, ?_, ?_, ?_, ?_, ?_, ?_, ?_, ?_, ?_, ?_, ?_, ?_, ?_, ?_, ?_, ?_, ?_, ?_, ?_, ?_, ?_, ?_, ?_, ?_, ?_, ?_, ?_, ?_, ?_, ?_, ?_, ?_, ?_⟩
  · intro h; rw [hL 0 (by decide)] at h; rw [U 24 (by decide)]; exact R.p0 h
  · intro h; rw [hL 1 (by decide)] at h; rw [U 25 (by decide)]; exact R.p1 h
  · intro h; rw [hL 3 (by decide)] at h; rw [U 27 (by decide)]; exact R.p3 h
  · intro h; rw [hL 5 (by decide)] at h; rw [U 29 (by decide)]; exact R.p5 h
  · intro h; rw [hL 7 (by decide)] at h; rw [U 31 (by decide)]; exact R.p7 h
  · intro h; rw [hL 8 (by decide)] at h; rw [U 32 (by decide)]; exact R.p8 h
  · intro _; rw [E]; exact hv
  · intro h; rw [hL 11 (by decide)] at h; rw [U 35 (by decide)]; exact R.p11 h
  · intro h; rw [hL 12 (by decide)] at h; rw [U 36 (by decide)]; exact R.p12 h
  · intro h; rw [hL 13 (by decide)] at h; rw [U 37 (by decide)]; exact R.p13 h
  · intro h; rw [hL 15 (by decide)] at h; rw [U 39 (by decide)]; exact R.p15 h
  · intro h; rw [hL 2 (by decide)] at h; rw [U 26 (by decide)]; exact R.m2 h
  · intro h; rw [hL 4 (by decide)] at h; rw [U 28 (by decide)]; exact R.m4 h
  · intro h; rw [hL 6 (by decide)] at h; rw [U 30 (by decide)]; exact R.m6 h
  · intro h; rw [hL 9 (by decide)] at h; rw [U 33 (by decide)]; exact R.m9 h
  · intro h; rw [hL 14 (by decide)] at h; rw [U 38 (by decide)]; exact R.m14 h
  · intro h; rw [hL 16 (by decide)] at h; rw [U 40 (by decide)]; exact R.m16 h
  · intro h k; rw [hL 2 (by decide)] at h; rw [hL 4 (by decide)] at k; rw [U 26 (by decide), U 28 (by decide)]; exact R.q2_4 h k
  · intro h k; rw [hL 2 (by decide)] at h; rw [hL 6 (by decide)] at k; rw [U 26 (by decide), U 30 (by decide)]; exact R.q2_6 h k
  · intro h k; rw [hL 2 (by decide)] at h; rw [hL 9 (by decide)] at k; rw [U 26 (by decide), U 33 (by decide)]; exact R.q2_9 h k
  · intro h k; rw [hL 2 (by decide)] at h; rw [hL 14 (by decide)] at k; rw [U 26 (by decide), U 38 (by decide)]; exact R.q2_14 h k
  · intro h k; rw [hL 2 (by decide)] at h; rw [hL 16 (by decide)] at k; rw [U 26 (by decide), U 40 (by decide)]; exact R.q2_16 h k
  · intro h k; rw [hL 4 (by decide)] at h; rw [hL 6 (by decide)] at k; rw [U 28 (by decide), U 30 (by decide)]; exact R.q4_6 h k
  · intro h k; rw [hL 4 (by decide)] at h; rw [hL 9 (by decide)] at k; rw [U 28 (by decide), U 33 (by decide)]; exact R.q4_9 h k
  · intro h k; rw [hL 4 (by decide)] at h; rw [hL 14 (by decide)] at k; rw [U 28 (by decide), U 38 (by decide)]; exact R.q4_14 h k
  · intro h k; rw [hL 4 (by decide)] at h; rw [hL 16 (by decide)] at k; rw [U 28 (by decide), U 40 (by decide)]; exact R.q4_16 h k
  · intro h k; rw [hL 6 (by decide)] at h; rw [hL 9 (by decide)] at k; rw [U 30 (by decide), U 33 (by decide)]; exact R.q6_9 h k
  · intro h k; rw [hL 6 (by decide)] at h; rw [hL 14 (by decide)] at k; rw [U 30 (by decide), U 38 (by decide)]; exact R.q6_14 h k
  · intro h k; rw [hL 6 (by decide)] at h; rw [hL 16 (by decide)] at k; rw [U 30 (by decide), U 40 (by decide)]; exact R.q6_16 h k
  · intro h k; rw [hL 9 (by decide)] at h; rw [hL 14 (by decide)] at k; rw [U 33 (by decide), U 38 (by decide)]; exact R.q9_14 h k
  · intro h k; rw [hL 9 (by decide)] at h; rw [hL 16 (by decide)] at k; rw [U 33 (by decide), U 40 (by decide)]; exact R.q9_16 h k
  · intro h k; rw [hL 14 (by decide)] at h; rw [hL 16 (by decide)] at k; rw [U 38 (by decide), U 40 (by decide)]; exact R.q14_16 h k
  · intro h; rw [hL 17 (by decide)] at h; rw [U 41 (by decide), U 24 (by decide), U 26 (by decide), U 28 (by decide), U 30 (by decide), U 33 (by decide), U 38 (by decide), U 40 (by decide)]; exact R.p17 h
  · intro h; rw [hL 17 (by decide)] at h; rw [hL 0 (by decide), hL 2 (by decide), hL 4 (by decide), hL 6 (by decide), hL 9 (by decide), hL 14 (by decide), hL 16 (by decide)]; exact R.c17 h
  · intro h; rw [hL 18 (by decide)] at h; obtain ⟨S, s1, s2, s3, s4⟩ := R.p18 h; rw [U 42 (by decide), U 24 (by decide), U 26 (by decide), U 28 (by decide), U 30 (by decide), U 33 (by decide), U 38 (by decide), U 40 (by decide)]; exact ⟨S, s1, s2, s3, s4⟩
  · intro h; rw [hL 18 (by decide)] at h; rw [hL 17 (by decide)]; exact R.c18 h
  · intro h; rw [hL 19 (by decide)] at h; rw [U 4 (by decide), U 42 (by decide)]; exact R.p19 h
  · intro h; rw [hL 19 (by decide)] at h; rw [hL 18 (by decide)]; exact R.c19 h
  · exact R.bel

theorem R2.s11 {n items H : Nat} {w0 w : World} {L L' : Nat → Bool} {x : Nat → Value} (R : R2 n items H w0 L x w) (h0 : L 11 = false) (hL : ∀ j, j ≠ 11 → L' j = L j) (v : Value) (hv : v = (.pointer (some ⟨H, 0, none⟩))) : R2 n items H w0 L' (upd x 35 v) w := by
  have U : ∀ s, s ≠ 35 → upd x 35 v s = x s := fun s hs => upd_ne x v hs
  have E : upd x 35 v 35 = v := upd_same x 35 v
  have n17 : L 17 = true → L 11 = true → False := fun _ h => by rw [h0] at h; cases h
  refine ⟨?_, ?_, ?_, ?_, ?_, ?_, ?_, ?_, ?_, ?_, ?_, ?_, ?_, ?_, ?_, ?_, ?_, ?_, ?_, ?_, ?_, ?_, ?_, ?_, ?_, ?_, ?_, ?_, ?_, ?_, ?_, ?_, ?_, ?_, ?_, ?_, ?_, ?_, ?_⟩
  · intro h; rw [hL 0 (by decide)] at h; rw [U 24 (by decide)]; exact R.p0 h
  · intro h; rw [hL 1 (by decide)] at h; rw [U 25 (by decide)]; exact R.p1 h
  · intro h; rw [hL 3 (by decide)] at h; rw [U 27 (by decide)]; exact R.p3 h
  · intro h; rw [hL 5 (by decide)] at h; rw [U 29 (by decide)]; exact R.p5 h
  · intro h; rw [hL 7 (by decide)] at h; rw [U 31 (by decide)]; exact R.p7 h
  · intro h; rw [hL 8 (by decide)] at h; rw [U 32 (by decide)]; exact R.p8 h
  · intro h; rw [hL 10 (by decide)] at h; rw [U 34 (by decide)]; exact R.p10 h
  · intro _; rw [E]; exact hv
  · intro h; rw [hL 12 (by decide)] at h; rw [U 36 (by decide)]; exact R.p12 h
  · intro h; rw [hL 13 (by decide)] at h; rw [U 37 (by decide)]; exact R.p13 h
  · intro h; rw [hL 15 (by decide)] at h; rw [U 39 (by decide)]; exact R.p15 h
  · intro h; rw [hL 2 (by decide)] at h; rw [U 26 (by decide)]; exact R.m2 h
  · intro h; rw [hL 4 (by decide)] at h; rw [U 28 (by decide)]; exact R.m4 h
  · intro h; rw [hL 6 (by decide)] at h; rw [U 30 (by decide)]; exact R.m6 h
  · intro h; rw [hL 9 (by decide)] at h; rw [U 33 (by decide)]; exact R.m9 h
  · intro h; rw [hL 14 (by decide)] at h; rw [U 38 (by decide)]; exact R.m14 h
  · intro h; rw [hL 16 (by decide)] at h; rw [U 40 (by decide)]; exact R.m16 h
  · intro h k; rw [hL 2 (by decide)] at h; rw [hL 4 (by decide)] at k; rw [U 26 (by decide), U 28 (by decide)]; exact R.q2_4 h k
  · intro h k; rw [hL 2 (by decide)] at h; rw [hL 6 (by decide)] at k; rw [U 26 (by decide), U 30 (by decide)]; exact R.q2_6 h k
  · intro h k; rw [hL 2 (by decide)] at h; rw [hL 9 (by decide)] at k; rw [U 26 (by decide), U 33 (by decide)]; exact R.q2_9 h k
  · intro h k; rw [hL 2 (by decide)] at h; rw [hL 14 (by decide)] at k; rw [U 26 (by decide), U 38 (by decide)]; exact R.q2_14 h k
  · intro h k; rw [hL 2 (by decide)] at h; rw [hL 16 (by decide)] at k; rw [U 26 (by decide), U 40 (by decide)]; exact R.q2_16 h k
  · intro h k; rw [hL 4 (by decide)] at h; rw [hL 6 (by decide)] at k; rw [U 28 (by decide), U 30 (by decide)]; exact R.q4_6 h k
  · intro h k; rw [hL 4 (by decide)] at h; rw [hL 9 (by decide)] at k; rw [U 28 (by decide), U 33 (by decide)]; exact R.q4_9 h k
  · intro h k; rw [hL 4 (by decide)] at h; rw [hL 14 (by decide)] at k; rw [U 28 (by decide), U 38 (by decide)]; exact R.q4_14 h k
  · intro h k; rw [hL 4 (by decide)] at h; rw [hL 16 (by decide)] at k; rw [U 28 (by decide), U 40 (by decide)]; exact R.q4_16 h k
  · intro h k; rw [hL 6 (by decide)] at h; rw [hL 9 (by decide)] at k; rw [U 30 (by decide), U 33 (by decide)]; exact R.q6_9 h k
  · intro h k; rw [hL 6 (by decide)] at h; rw [hL 14 (by decide)] at k; rw [U 30 (by decide), U 38 (by decide)]; exact R.q6_14 h k
  · intro h k; rw [hL 6 (by decide)] at h; rw [hL 16 (by decide)] at k; rw [U 30 (by decide), U 40 (by decide)]; exact R.q6_16 h k
  · intro h k; rw [hL 9 (by decide)] at h; rw [hL 14 (by decide)] at k; rw [U 33 (by decide), U 38 (by decide)]; exact R.q9_14 h k
  · intro h k; rw [hL 9 (by decide)] at h; rw [hL 16 (by decide)] at k; rw [U 33 (by decide), U 40 (by decide)]; exact R.q9_16 h k
  · intro h k; rw [hL 14 (by decide)] at h; rw [hL 16 (by decide)] at k; rw [U 38 (by decide), U 40 (by decide)]; exact R.q14_16 h k
  · intro h; rw [hL 17 (by decide)] at h; rw [U 41 (by decide), U 24 (by decide), U 26 (by decide), U 28 (by decide), U 30 (by decide), U 33 (by decide), U 38 (by decide), U 40 (by decide)]; exact R.p17 h
  · intro h; rw [hL 17 (by decide)] at h; rw [hL 0 (by decide), hL 2 (by decide), hL 4 (by decide), hL 6 (by decide), hL 9 (by decide), hL 14 (by decide), hL 16 (by decide)]; exact R.c17 h
  · intro h; rw [hL 18 (by decide)] at h; obtain ⟨S, s1, s2, s3, s4⟩ := R.p18 h; rw [U 42 (by decide), U 24 (by decide), U 26 (by decide), U 28 (by decide), U 30 (by decide), U 33 (by decide), U 38 (by decide), U 40 (by decide)]; exact ⟨S, s1, s2, s3, s4⟩
  · intro h; rw [hL 18 (by decide)] at h; rw [hL 17 (by decide)]; exact R.c18 h
  · intro h; rw [hL 19 (by decide)] at h; rw [U 4 (by decide), U 42 (by decide)]; exact R.p19 h
  · intro h; rw [hL 19 (by decide)] at h; rw [hL 18 (by decide)]; exact R.c19 h
  · exact R.bel

theorem R2.s12 {n items H : Nat} {w0 w : World} {L L' : Nat → Bool} {x : Nat → Value} (R : R2 n items H w0 L x w) (h0 : L 12 = false) (hL : ∀ j, j ≠ 12 → L' j = L j) (v : Value) (hv : v = (.pointer (some ⟨H, 1, none⟩))) : R2 n items H w0 L' (upd x 36 v) w := by
  have U : ∀ s, s ≠ 36 → upd x 36 v s = x s := fun s hs => upd_ne x v hs
  have E : upd x 36 v 36 = v := upd_same x 36 v
  have n17 : L 17 = true → L 12 = true → False := fun _ h => by rw [h0] at h; cases h
  refine ⟨?_, ?_, ?_, ?_, ?_, ?_, ?_, ?_, ?_, ?_, ?_, ?_, ?_, ?_, ?_, ?_, ?_, ?_, ?_, ?_, ?_, ?_, ?_, ?_, ?_, ?_, ?_, ?_, ?_, ?_, ?_, ?_, ?_, ?_, ?_, ?_, ?_, ?_, ?_⟩
  · intro h; rw [hL 0 (by decide)] at h; rw [U 24 (by decide)]; exact R.p0 h
  · intro h; rw [hL 1 (by decide)] at h; rw [U 25 (by decide)]; exact R.p1 h
  · intro h; rw [hL 3 (by decide)] at h; rw [U 27 (by decide)]; exact R.p3 h
  · intro h; rw [hL 5 (by decide)] at h; rw [U 29 (by decide)]; exact R.p5 h
  · intro h; rw [hL 7 (by decide)] at h; rw [U 31 (by decide)]; exact R.p7 h
  · intro h; rw [hL 8 (by decide)] at h; rw [U 32 (by decide)]; exact R.p8 h
  · intro h; rw [hL 10 (by decide)] at h; rw [U 34 (by decide)]; exact R.p10 h
  · intro h; rw [hL 11 (by decide)] at h; rw [U 35 (by decide)]; exact R.p11 h
  · intro _; rw [E]; exact hv
  · intro h; rw [hL 13 (by decide)] at h; rw [U 37 (by decide)]; exact R.p13 h
  · intro h; rw [hL 15 (by decide)] at h; rw [U 39 (by decide)]; exact R.p15 h
  · intro h; rw [hL 2 (by decide)] at h; rw [U 26 (by decide)]; exact R.m2 h
  · intro h; rw [hL 4 (by decide)] at h; rw [U 28 (by decide)]; exact R.m4 h
  · intro h; rw [hL 6 (by decide)] at h; rw [U 30 (by decide)]; exact R.m6 h
  · intro h; rw [hL 9 (by decide)] at h; rw [U 33 (by decide)]; exact R.m9 h
  · intro h; rw [hL 14 (by decide)] at h; rw [U 38 (by decide)]; exact R.m14 h
  · intro h; rw [hL 16 (by decide)] at h; rw [U 40 (by decide)]; exact R.m16 h
  · intro h k; rw [hL 2 (by decide)] at h; rw [hL 4 (by decide)] at k; rw [U 26 (by decide), U 28 (by decide)]; exact R.q2_4 h k
  · intro h k; rw [hL 2 (by decide)] at h; rw [hL 6 (by decide)] at k; rw [U 26 (by decide), U 30 (by decide)]; exact R.q2_6 h k
  · intro h k; rw [hL 2 (by decide)] at h; rw [hL 9 (by decide)] at k; rw [U 26 (by decide), U 33 (by decide)]; exact R.q2_9 h k
  · intro h k; rw [hL 2 (by decide)] at h; rw [hL 14 (by decide)] at k; rw [U 26 (by decide), U 38 (by decide)]; exact R.q2_14 h k
  · intro h k; rw [hL 2 (by decide)] at h; rw [hL 16 (by decide)] at k; rw [U 26 (by decide), U 40 (by decide)]; exact R.q2_16 h k
  · intro h k; rw [hL 4 (by decide)] at h; rw [hL 6 (by decide)] at k; rw [U 28 (by decide), U 30 (by decide)]; exact R.q4_6 h k
  · intro h k; rw [hL 4 (by decide)] at h; rw [hL 9 (by decide)] at k; rw [U 28 (by decide), U 33 (by decide)]; exact R.q4_9 h k
  · intro h k; rw [hL 4 (by decide)] at h; rw [hL 14 (by decide)] at k; rw [U 28 (by decide), U 38 (by decide)]; exact R.q4_14 h k
  · intro h k; rw [hL 4 (by decide)] at h; rw [hL 16 (by decide)] at k; rw [U 28 (by decide), U 40 (by decide)]; exact R.q4_16 h k
  · intro h k; rw [hL 6 (by decide)] at h; rw [hL 9 (by decide)] at k; rw [U 30 (by decide), U 33 (by decide)]; exact R.q6_9 h k
  · intro h k; rw [hL 6 (by decide)] at h; rw [hL 14 (by decide)] at k; rw [U 30 (by decide), U 38 (by decide)]; exact R.q6_14 h k
  · intro h k; rw [hL 6 (by decide)] at h; rw [hL 16 (by decide)] at k; rw [U 30 (by decide), U 40 (by decide)]; exact R.q6_16 h k
  · intro h k; rw [hL 9 (by decide)] at h; rw [hL 14 (by decide)] at k; rw [U 33 (by decide), U 38 (by decide)]; exact R.q9_14 h k
  · intro h k; rw [hL 9 (by decide)] at h; rw [hL 16 (by decide)] at k; rw [U 33 (by decide), U 40 (by decide)]; exact R.q9_16 h k
  · intro h k; rw [hL 14 (by decide)] at h; rw [hL 16 (by decide)] at k; rw [U 38 (by decide), U 40 (by decide)]; exact R.q14_16 h k
  · intro h; rw [hL 17 (by decide)] at h; rw [U 41 (by decide), U 24 (by decide), U 26 (by decide), U 28 (by decide), U 30 (by decide), U 33 (by decide), U 38 (by decide), U 40 (by decide)]; exact R.p17 h
  · intro h; rw [hL 17 (by decide)] at h; rw [hL 0 (by decide), hL 2 (by decide), hL 4 (by decide), hL 6 (by decide), hL 9 (by decide), hL 14 (by decide), hL 16 (by decide)]; exact R.c17 h
  · intro h; rw [hL 18 (by decide)] at h; obtain ⟨S, s1, s2, s3, s4⟩ := R.p18 h; rw [U 42 (by decide), U 24 (by decide), U 26 (by decide), U 28 (by decide), U 30 (by decide), U 33 (by decide), U 38 (by decide), U 40 (by decide)]; exact ⟨S, s1, s2, s3, s4⟩
  · intro h; rw [hL 18 (by decide)] at h; rw [hL 17 (by decide)]; exact R.c18 h
  · intro h; rw [hL 19 (by decide)] at h; rw [U 4 (by decide), U 42 (by decide)]; exact R.p19 h
  · intro h; rw [hL 19 (by decide)] at h; rw [hL 18 (by decide)]; exact R.c19 h
  · exact R.bel

theorem R2.s13 {n items H : Nat} {w0 w : World} {L L' : Nat → Bool} {x : Nat → Value} (R : R2 n items H w0 L x w) (h0 : L 13 = false) (hL : ∀ j, j ≠ 13 → L' j = L j) (v : Value) (hv : v = (.int .i64 (items : Int))) : R2 n items H w0 L' (upd x 37 v) w := by
  have U : ∀ s, s ≠ 37 → upd x 37 v s = x s := fun s hs => upd_ne x v hs
  have E : upd x 37 v 37 = v := upd_same x 37 v
  have n17 : L 17 = true → L 13 = true → False := fun _ h => by rw [h0] at h; cases h
  refine ⟨?_, ?_, ?_, ?_, ?_, ?_, ?_, ?_, ?_, ?_, ?_, ?_, ?_, ?_, ?_, ?_, ?_, ?_, ?_, ?_, ?_, ?_, ?_, ?_, ?_, ?_, ?_, ?_, ?_, ?_, ?_, ?_, ?_, ?_, ?_, ?_, ?_, ?_, ?_⟩
  · intro h; rw [hL 0 (by decide)] at h; rw [U 24 (by decide)]; exact R.p0 h
  · intro h; rw [hL 1 (by decide)] at h; rw [U 25 (by decide)]; exact R.p1 h
  · intro h; rw [hL 3 (by decide)] at h; rw [U 27 (by decide)]; exact R.p3 h
  · intro h; rw [hL 5 (by decide)] at h; rw [U 29 (by decide)]; exact R.p5 h
  · intro h; rw [hL 7 (by decide)] at h; rw [U 31 (by decide)]; exact R.p7 h
  · intro h; rw [hL 8 (by decide)] at h; rw [U 32 (by decide)]; exact R.p8 h
  · intro h; rw [hL 10 (by decide)] at h; rw [U 34 (by decide)]; exact R.p10 h
  · intro h; rw [hL 11 (by decide)] at h; rw [U 35 (by decide)]; exact R.p11 h
  · intro h; rw [hL 12 (by decide)] at h; rw [U 36 (by decide)]; exact R.p12 h
  · intro _; rw [E]; exact hv
  · intro h; rw [hL 15 (by decide)] at h; rw [U 39 (by decide)]; exact R.p15 h
  · intro h; rw [hL 2 (by decide)] at h; rw [U 26 (by decide)]; exact R.m2 h
  · intro h; rw [hL 4 (by decide)] at h; rw [U 28 (by decide)]; exact R.m4 h
  · intro h; rw [hL 6 (by decide)] at h; rw [U 30 (by decide)]; exact R.m6 h
  · intro h; rw [hL 9 (by decide)] at h; rw [U 33 (by decide)]; exact R.m9 h
  · intro h; rw [hL 14 (by decide)] at h; rw [U 38 (by decide)]; exact R.m14 h
  · intro h; rw [hL 16 (by decide)] at h; rw [U 40 (by decide)]; exact R.m16 h
  · intro h k; rw [hL 2 (by decide)] at h; rw [hL 4 (by decide)] at k; rw [U 26 (by decide), U 28 (by decide)]; exact R.q2_4 h k
  · intro h k; rw [hL 2 (by decide)] at h; rw [hL 6 (by decide)] at k; rw [U 26 (by decide), U 30 (by decide)]; exact R.q2_6 h k
  · intro h k; rw [hL 2 (by decide)] at h; rw [hL 9 (by decide)] at k; rw [U 26 (by decide), U 33 (by decide)]; exact R.q2_9 h k
  · intro h k; rw [hL 2 (by decide)] at h; rw [hL 14 (by decide)] at k; rw [U 26 (by decide), U 38 (by decide)]; exact R.q2_14 h k
  · intro h k; rw [hL 2 (by decide)] at h; rw [hL 16 (by decide)] at k; rw [U 26 (by decide), U 40 (by decide)]; exact R.q2_16 h k
  · intro h k; rw [hL 4 (by decide)] at h; rw [hL 6 (by decide)] at k; rw [U 28 (by decide), U 30 (by decide)]; exact R.q4_6 h k
  · intro h k; rw [hL 4 (by decide)] at h; rw [hL 9 (by decide)] at k; rw [U 28 (by decide), U 33 (by decide)]; exact R.q4_9 h k
  · intro h k; rw [hL 4 (by decide)] at h; rw [hL 14 (by decide)] at k; rw [U 28 (by decide), U 38 (by decide)]; exact R.q4_14 h k
  · intro h k; rw [hL 4 (by decide)] at h; rw [hL 16 (by decide)] at k; rw [U 28 (by decide), U 40 (by decide)]; exact R.q4_16 h k
  · intro h k; rw [hL 6 (by decide)] at h; rw [hL 9 (by decide)] at k; rw [U 30 (by decide), U 33 (by decide)]; exact R.q6_9 h k
  · intro h k; rw [hL 6 (by decide)] at h; rw [hL 14 (by decide)] at k; rw [U 30 (by decide), U 38 (by decide)]; exact R.q6_14 h k
  · intro h k; rw [hL 6 (by decide)] at h; rw [hL 16 (by decide)] at k; rw [U 30 (by decide), U 40 (by decide)]; exact R.q6_16 h k
  · intro h k; rw [hL 9 (by decide)] at h; rw [hL 14 (by decide)] at k; rw [U 33 (by decide), U 38 (by decide)]; exact R.q9_14 h k
  · intro h k; rw [hL 9 (by decide)] at h; rw [hL 16 (by decide)] at k; rw [U 33 (by decide), U 40 (by decide)]; exact R.q9_16 h k
  · intro h k; rw [hL 14 (by decide)] at h; rw [hL 16 (by decide)] at k; rw [U 38 (by decide), U 40 (by decide)]; exact R.q14_16 h k
  · intro h; rw [hL 17 (by decide)] at h; rw [U 41 (by decide), U 24 (by decide), U 26 (by decide), U 28 (by decide), U 30 (by decide), U 33 (by decide), U 38 (by decide), U 40 (by decide)]; exact R.p17 h
  · intro h; rw [hL 17 (by decide)] at h; rw [hL 0 (by decide), hL 2 (by decide), hL 4 (by decide), hL 6 (by decide), hL 9 (by decide), hL 14 (by decide), hL 16 (by decide)]; exact R.c17 h
  · intro h; rw [hL 18 (by decide)] at h; obtain ⟨S, s1, s2, s3, s4⟩ := R.p18 h; rw [U 42 (by decide), U 24 (by decide), U 26 (by decide), U 28 (by decide), U 30 (by decide), U 33 (by decide), U 38 (by decide), U 40 (by decide)]; exact ⟨S, s1, s2, s3, s4⟩
  · intro h; rw [hL 18 (by decide)] at h; rw [hL 17 (by decide)]; exact R.c18 h
  · intro h; rw [hL 19 (by decide)] at h; rw [U 4 (by decide), U 42 (by decide)]; exact R.p19 h
  · intro h; rw [hL 19 (by decide)] at h; rw [hL 18 (by decide)]; exact R.c19 h
  · exact R.bel

theorem R2.s14 {n items H : Nat} {w0 w : World} {L L' : Nat → Bool} {x : Nat → Value} (R : R2 n items H w0 L x w) (h0 : L 14 = false) (hL : ∀ j, j ≠ 14 → L' j = L j) (v : Value) (o : Obj) (hv : mkOk (w.alloc o) w0.heap.size v items (.slice none 0 0) 22) (hb : v.ownBlock = some w.heap.size) : R2 n items H w0 L' (upd x 38 v) (w.alloc o) := by
  have U : ∀ s, s ≠ 38 → upd x 38 v s = x s := fun s hs => upd_ne x v hs
  have E : upd x 38 v 38 = v := upd_same x 38 v
  have n17 : L 17 = true → L 14 = true → False := fun _ h => by rw [h0] at h; cases h
  refine ⟨?_, ?_, ?_, ?_, ?_, ?_, ?_, ?_, ?_, ?_, ?_, ?_, ?_, ?_, ?_, ?_, ?_, ?_, ?_, ?_, ?_, ?_, ?_, ?_, ?_, ?_, ?_, ?_, ?_, ?_, ?_, ?_, ?_, ?_, ?_, ?_, ?_, ?_, ?_⟩
  · intro h; rw [hL 0 (by decide)] at h; rw [U 24 (by decide)]; exact R.p0 h
  · intro h; rw [hL 1 (by decide)] at h; rw [U 25 (by decide)]; exact R.p1 h
  · intro h; rw [hL 3 (by decide)] at h; rw [U 27 (by decide)]; exact R.p3 h
  · intro h; rw [hL 5 (by decide)] at h; rw [U 29 (by decide)]; exact R.p5 h
  · intro h; rw [hL 7 (by decide)] at h; rw [U 31 (by decide)]; exact R.p7 h
  · intro h; rw [hL 8 (by decide)] at h; rw [U 32 (by decide)]; exact R.p8 h
  · intro h; rw [hL 10 (by decide)] at h; rw [U 34 (by decide)]; exact R.p10 h
  · intro h; rw [hL 11 (by decide)] at h; rw [U 35 (by decide)]; exact R.p11 h
  · intro h; rw [hL 12 (by decide)] at h; rw [U 36 (by decide)]; exact R.p12 h
  · intro h; rw [hL 13 (by decide)] at h; rw [U 37 (by decide)]; exact R.p13 h
  · intro h; rw [hL 15 (by decide)] at h; rw [U 39 (by decide)]; exact R.p15 h
  · intro h; rw [hL 2 (by decide)] at h; rw [U 26 (by decide)]; exact (R.m2 h).alloc _
  · intro h; rw [hL 4 (by decide)] at h; rw [U 28 (by decide)]; exact (R.m4 h).alloc _
  · intro h; rw [hL 6 (by decide)] at h; rw [U 30 (by decide)]; exact (R.m6 h).alloc _
  · intro h; rw [hL 9 (by decide)] at h; rw [U 33 (by decide)]; exact (R.m9 h).alloc _
  · intro _; rw [E]; exact hv
  · intro h; rw [hL 16 (by decide)] at h; rw [U 40 (by decide)]; exact (R.m16 h).alloc _
  · intro h k; rw [hL 2 (by decide)] at h; rw [hL 4 (by decide)] at k; rw [U 26 (by decide), U 28 (by decide)]; exact R.q2_4 h k
  · intro h k; rw [hL 2 (by decide)] at h; rw [hL 6 (by decide)] at k; rw [U 26 (by decide), U 30 (by decide)]; exact R.q2_6 h k
  · intro h k; rw [hL 2 (by decide)] at h; rw [hL 9 (by decide)] at k; rw [U 26 (by decide), U 33 (by decide)]; exact R.q2_9 h k
  · intro h k; rw [hL 2 (by decide)] at h; rw [E, U 26 (by decide), hb]; exact (R.m2 h).lt
  · intro h k; rw [hL 2 (by decide)] at h; rw [hL 16 (by decide)] at k; rw [U 26 (by decide), U 40 (by decide)]; exact R.q2_16 h k
  · intro h k; rw [hL 4 (by decide)] at h; rw [hL 6 (by decide)] at k; rw [U 28 (by decide), U 30 (by decide)]; exact R.q4_6 h k
  · intro h k; rw [hL 4 (by decide)] at h; rw [hL 9 (by decide)] at k; rw [U 28 (by decide), U 33 (by decide)]; exact R.q4_9 h k
  · intro h k; rw [hL 4 (by decide)] at h; rw [E, U 28 (by decide), hb]; exact (R.m4 h).lt
  · intro h k; rw [hL 4 (by decide)] at h; rw [hL 16 (by decide)] at k; rw [U 28 (by decide), U 40 (by decide)]; exact R.q4_16 h k
  · intro h k; rw [hL 6 (by decide)] at h; rw [hL 9 (by decide)] at k; rw [U 30 (by decide), U 33 (by decide)]; exact R.q6_9 h k
  · intro h k; rw [hL 6 (by decide)] at h; rw [E, U 30 (by decide), hb]; exact (R.m6 h).lt
  · intro h k; rw [hL 6 (by decide)] at h; rw [hL 16 (by decide)] at k; rw [U 30 (by decide), U 40 (by decide)]; exact R.q6_16 h k
  · intro h k; rw [hL 9 (by decide)] at h; rw [E, U 33 (by decide), hb]; exact (R.m9 h).lt
  · intro h k; rw [hL 9 (by decide)] at h; rw [hL 16 (by decide)] at k; rw [U 33 (by decide), U 40 (by decide)]; exact R.q9_16 h k
  · intro h k; rw [hL 16 (by decide)] at k; rw [E, U 40 (by decide), hb]; exact fun e => (R.m16 k).lt e.symm
  · intro h; rw [hL 17 (by decide)] at h; exact (n17 h (R.c17 h).2.2.2.2.2.1).elim
  · intro h; rw [hL 17 (by decide)] at h; exact (n17 h (R.c17 h).2.2.2.2.2.1).elim
  · intro h; rw [hL 18 (by decide)] at h; exact (n17 (R.c18 h) (R.c17 (R.c18 h)).2.2.2.2.2.1).elim
  · intro h; rw [hL 18 (by decide)] at h; rw [hL 17 (by decide)]; exact R.c18 h
  · intro h; rw [hL 19 (by decide)] at h; rw [U 4 (by decide), U 42 (by decide)]; exact R.p19 h
  · intro h; rw [hL 19 (by decide)] at h; rw [hL 18 (by decide)]; exact R.c19 h
  · exact below_alloc R.bel _

theorem R2.s15 {n items H : Nat} {w0 w : World} {L L' : Nat → Bool} {x : Nat → Value} (R : R2 n items H w0 L x w) (h0 : L 15 = false) (hL : ∀ j, j ≠ 15 → L' j = L j) (v : Value) (hv : v = (.int .i64 (n : Int))) : R2 n items H w0 L' (upd x 39 v) w := by
  have U : ∀ s, s ≠ 39 → upd x 39 v s = x s := fun s hs => upd_ne x v hs
  have E : upd x 39 v 39 = v := upd_same x 39 v
  have n17 : L 17 = true → L 15 = true → False := fun _ h => by rw [h0] at h; cases h
  refine ⟨?_, ?_, ?_, ?_, ?_, ?_, ?_, ?_, ?_, ?_, ?_, ?_, ?_, ?_, ?_, ?_, ?_, ?_, ?_, ?_, ?_, ?_, ?_, ?_, ?_, ?_, ?_, ?_, ?_, ?_, ?_, ?_, ?_, ?_, ?_, ?_, ?_, ?_, ?_⟩
  · intro h; rw [hL 0 (by decide)] at h; rw [U 24 (by decide)]; exact R.p0 h
  · intro h; rw [hL 1 (by decide)] at h; rw [U 25 (by decide)]; exact R.p1 h
  · intro h; rw [hL 3 (by decide)] at h; rw [U 27 (by decide)]; exact R.p3 h
  · intro h; rw [hL 5 (by decide)] at h; rw [U 29 (by decide)]; exact R.p5 h
  · intro h; rw [hL 7 (by decide)] at h; rw [U 31 (by decide)]; exact R.p7 h
  · intro h; rw [hL 8 (by decide)] at h; rw [U 32 (by decide)]; exact R.p8 h
  · intro h; rw [hL 10 (by decide)] at h; rw [U 34 (by decide)]; exact R.p10 h
  · intro h; rw [hL 11 (by decide)] at h; rw [U 35 (by decide)]; exact R.p11 h
  · intro h; rw [hL 12 (by decide)] at h; rw [U 36 (by decide)]; exact R.p12 h
  · intro h; rw [hL 13 (by decide)] at h; rw [U 37 (by decide)]; exact R.p13 h
  · intro _; rw [E]; exact hv
  · intro h; rw [hL 2 (by decide)] at h; rw [U 26 (by decide)]; exact R.m2 h
  · intro h; rw [hL 4 (by decide)] at h; rw [U 28 (by decide)]; exact R.m4 h
  · intro h; rw [hL 6 (by decide)] at h; rw [U 30 (by decide)]; exact R.m6 h
  · intro h; rw [hL 9 (by decide)] at h; rw [U 33 (by decide)]; exact R.m9 h
  · intro h; rw [hL 14 (by decide)] at h; rw [U 38 (by decide)]; exact R.m14 h
  · intro h; rw [hL 16 (by decide)] at h; rw [U 40 (by decide)]; exact R.m16 h
  · intro h k; rw [hL 2 (by decide)] at h; rw [hL 4 (by decide)] at k; rw [U 26 (by decide), U 28 (by decide)]; exact R.q2_4 h k
  · intro h k; rw [hL 2 (by decide)] at h; rw [hL 6 (by decide)] at k; rw [U 26 (by decide), U 30 (by decide)]; exact R.q2_6 h k
  · intro h k; rw [hL 2 (by decide)] at h; rw [hL 9 (by decide)] at k; rw [U 26 (by decide), U 33 (by decide)]; exact R.q2_9 h k
  · intro h k; rw [hL 2 (by decide)] at h; rw [hL 14 (by decide)] at k; rw [U 26 (by decide), U 38 (by decide)]; exact R.q2_14 h k
  · intro h k; rw [hL 2 (by decide)] at h; rw [hL 16 (by decide)] at k; rw [U 26 (by decide), U 40 (by decide)]; exact R.q2_16 h k
  · intro h k; rw [hL 4 (by decide)] at h; rw [hL 6 (by decide)] at k; rw [U 28 (by decide), U 30 (by decide)]; exact R.q4_6 h k
  · intro h k; rw [hL 4 (by decide)] at h; rw [hL 9 (by decide)] at k; rw [U 28 (by decide), U 33 (by decide)]; exact R.q4_9 h k
  · intro h k; rw [hL 4 (by decide)] at h; rw [hL 14 (by decide)] at k; rw [U 28 (by decide), U 38 (by decide)]; exact R.q4_14 h k
  · intro h k; rw [hL 4 (by decide)] at h; rw [hL 16 (by decide)] at k; rw [U 28 (by decide), U 40 (by decide)]; exact R.q4_16 h k
  · intro h k; rw [hL 6 (by decide)] at h; rw [hL 9 (by decide)] at k; rw [U 30 (by decide), U 33 (by decide)]; exact R.q6_9 h k
  · intro h k; rw [hL 6 (by decide)] at h; rw [hL 14 (by decide)] at k; rw [U 30 (by decide), U 38 (by decide)]; exact R.q6_14 h k
  · intro h k; rw [hL 6 (by decide)] at h; rw [hL 16 (by decide)] at k; rw [U 30 (by decide), U 40 (by decide)]; exact R.q6_16 h k
  · intro h k; rw [hL 9 (by decide)] at h; rw [hL 14 (by decide)] at k; rw [U 33 (by decide), U 38 (by decide)]; exact R.q9_14 h k
  · intro h k; rw [hL 9 (by decide)] at h; rw [hL 16 (by decide)] at k; rw [U 33 (by decide), U 40 (by decide)]; exact R.q9_16 h k
  · intro h k; rw [hL 14 (by decide)] at h; rw [hL 16 (by decide)] at k; rw [U 38 (by decide), U 40 (by decide)]; exact R.q14_16 h k
  · intro h; rw [hL 17 (by decide)] at h; rw [U 41 (by decide), U 24 (by decide), U 26 (by decide), U 28 (by decide), U 30 (by decide), U 33 (by decide), U 38 (by decide), U 40 (by decide)]; exact R.p17 h
  · intro h; rw [hL 17 (by decide)] at h; rw [hL 0 (by decide), hL 2 (by decide), hL 4 (by decide), hL 6 (by decide), hL 9 (by decide), hL 14 (by decide), hL 16 (by decide)]; exact R.c17 h
  · intro h; rw [hL 18 (by decide)] at h; obtain ⟨S, s1, s2, s3, s4⟩ := R.p18 h; rw [U 42 (by decide), U 24 (by decide), U 26 (by decide), U 28 (by decide), U 30 (by decide), U 33 (by decide), U 38 (by decide), U 40 (by decide)]; exact ⟨S, s1, s2, s3, s4⟩
  · intro h; rw [hL 18 (by decide)] at h; rw [hL 17 (by decide)]; exact R.c18 h
  · intro h; rw [hL 19 (by decide)] at h; rw [U 4 (by decide), U 42 (by decide)]; exact R.p19 h
  · intro h; rw [hL 19 (by decide)] at h; rw [hL 18 (by decide)]; exact R.c19 h
  · exact R.bel

theorem R2.s16 {n items H : Nat} {w0 w : World} {L L' : Nat → Bool} {x : Nat → Value} (R : R2 n items H w0 L x w) (h0 : L 16 = false) (hL : ∀ j, j ≠ 16 → L' j = L j) (v : Value) (o : Obj) (hv : mkOk (w.alloc o) w0.heap.size v n (.int .i64 0) 3) (hb : v.ownBlock = some w.heap.size) : R2 n items H w0 L' (upd x 40 v) (w.alloc o) := by
  have U : ∀ s, s ≠ 40 → upd x 40 v s = x s := fun s hs => upd_ne x v hs
  have E : upd x 40 v 40 = v := upd_same x 40 v
  have n17 : L 17 = true → L 16 = true → False := fun _ h => by rw [h0] at h; cases h
  refine ⟨?_, ?_, ?_, ?_, ?_, ?_, ?_, ?_, ?_, ?_, ?_, ?_, ?_, ?_, ?_, ?_, ?_, ?_, ?_, ?_, ?_, ?_, ?_, ?_, ?_, ?_, ?_, ?_, ?_, ?_, ?_, ?_, ?_, ?_, ?_, ?_, ?_, ?_, ?_⟩
  · intro h; rw [hL 0 (by decide)] at h; rw [U 24 (by decide)]; exact R.p0 h
  · intro h; rw [hL 1 (by decide)] at h; rw [U 25 (by decide)]; exact R.p1 h
  · intro h; rw [hL 3 (by decide)] at h; rw [U 27 (by decide)]; exact R.p3 h
  · intro h; rw [hL 5 (by decide)] at h; rw [U 29 (by decide)]; exact R.p5 h
  · intro h; rw [hL 7 (by decide)] at h; rw [U 31 (by decide)]; exact R.p7 h
  · intro h; rw [hL 8 (by decide)] at h; rw [U 32 (by decide)]; exact R.p8 h
  · intro h; rw [hL 10 (by decide)] at h; rw [U 34 (by decide)]; exact R.p10 h
  · intro h; rw [hL 11 (by decide)] at h; rw [U 35 (by decide)]; exact R.p11 h
  · intro h; rw [hL 12 (by decide)] at h; rw [U 36 (by decide)]; exact R.p12 h
  · intro h; rw [hL 13 (by decide)] at h; rw [U 37 (by decide)]; exact R.p13 h
  · intro h; rw [hL 15 (by decide)] at h; rw [U 39 (by decide)]; exact R.p15 h
  · intro h; rw [hL 2 (by decide)] at h; rw [U 26 (by decide)]; exact (R.m2 h).alloc _
  · intro h; rw [hL 4 (by decide)] at h; rw [U 28 (by decide)]; exact (R.m4 h).alloc _
  · intro h; rw [hL 6 (by decide)] at h; rw [U 30 (by decide)]; exact (R.m6 h).alloc _
  · intro h; rw [hL 9 (by decide)] at h; rw [U 33 (by decide)]; exact (R.m9 h).alloc _
  · intro h; rw [hL 14 (by decide)] at h; rw [U 38 (by decide)]; exact (R.m14 h).alloc _
  · intro _; rw [E]; exact hv
  · intro h k; rw [hL 2 (by decide)] at h; rw [hL 4 (by decide)] at k; rw [U 26 (by decide), U 28 (by decide)]; exact R.q2_4 h k
  · intro h k; rw [hL 2 (by decide)] at h; rw [hL 6 (by decide)] at k; rw [U 26 (by decide), U 30 (by decide)]; exact R.q2_6 h k
  · intro h k; rw [hL 2 (by decide)] at h; rw [hL 9 (by decide)] at k; rw [U 26 (by decide), U 33 (by decide)]; exact R.q2_9 h k
  · intro h k; rw [hL 2 (by decide)] at h; rw [hL 14 (by decide)] at k; rw [U 26 (by decide), U 38 (by decide)]; exact R.q2_14 h k
  · intro h k; rw [hL 2 (by decide)] at h; rw [E, U 26 (by decide), hb]; exact (R.m2 h).lt
  · intro h k; rw [hL 4 (by decide)] at h; rw [hL 6 (by decide)] at k; rw [U 28 (by decide), U 30 (by decide)]; exact R.q4_6 h k
  · intro h k; rw [hL 4 (by decide)] at h; rw [hL 9 (by decide)] at k; rw [U 28 (by decide), U 33 (by decide)]; exact R.q4_9 h k
  · intro h k; rw [hL 4 (by decide)] at h; rw [hL 14 (by decide)] at k; rw [U 28 (by decide), U 38 (by decide)]; exact R.q4_14 h k
  · intro h k; rw [hL 4 (by decide)] at h; rw [E, U 28 (by decide), hb]; exact (R.m4 h).lt
  · intro h k; rw [hL 6 (by decide)] at h; rw [hL 9 (by decide)] at k; rw [U 30 (by decide), U 33 (by decide)]; exact R.q6_9 h k
  · intro h k; rw [hL 6 (by decide)] at h; rw [hL 14 (by decide)] at k; rw [U 30 (by decide), U 38 (by decide)]; exact R.q6_14 h k
  · intro h k; rw [hL 6 (by decide)] at h; rw [E, U 30 (by decide), hb]; exact (R.m6 h).lt
  · intro h k; rw [hL 9 (by decide)] at h; rw [hL 14 (by decide)] at k; rw [U 33 (by decide), U 38 (by decide)]; exact R.q9_14 h k
  · intro h k; rw [hL 9 (by decide)] at h; rw [E, U 33 (by decide), hb]; exact (R.m9 h).lt
  · intro h k; rw [hL 14 (by decide)] at h; rw [E, U 38 (by decide), hb]; exact (R.m14 h).lt
  · intro h; rw [hL 17 (by decide)] at h; exact (n17 h (R.c17 h).2.2.2.2.2.2).elim
  · intro h; rw [hL 17 (by decide)] at h; exact (n17 h (R.c17 h).2.2.2.2.2.2).elim
  · intro h; rw [hL 18 (by decide)] at h; exact (n17 (R.c18 h) (R.c17 (R.c18 h)).2.2.2.2.2.2).elim
  · intro h; rw [hL 18 (by decide)] at h; rw [hL 17 (by decide)]; exact R.c18 h
  · intro h; rw [hL 19 (by decide)] at h; rw [U 4 (by decide), U 42 (by decide)]; exact R.p19 h
  · intro h; rw [hL 19 (by decide)] at h; rw [hL 18 (by decide)]; exact R.c19 h
  · exact below_alloc R.bel _

theorem R2.s17 {n items H : Nat} {w0 w : World} {L L' : Nat → Bool} {x : Nat → Value} (R : R2 n items H w0 L x w) (h0 : L 17 = false) (hL : ∀ j, j ≠ 17 → L' j = L j) (v : Value) (hv : v = .agg (scells (x 24) (x 26) (x 28) (x 30) (x 33) (x 38) (x 40))) (hc : L 0 = true ∧ L 2 = true ∧ L 4 = true ∧ L 6 = true ∧ L 9 = true ∧ L 14 = true ∧ L 16 = true) : R2 n items H w0 L' (upd x 41 v) w := by
  have U : ∀ s, s ≠ 41 → upd x 41 v s = x s := fun s hs => upd_ne x v hs
  have E : upd x 41 v 41 = v := upd_same x 41 v
  have n17 : L 17 = true → L 17 = true → False := fun _ h => by rw [h0] at h; cases h
  refine ⟨?_, ?_, ?_, ?_, ?_, ?_, ?_, ?_, ?_, ?_, ?_, ?_, ?_, ?_, ?_, ?_, ?_, ?_, ?_, ?_, ?_, ?_, ?_, ?_, ?_, ?_, ?_, ?_, ?_, ?_, ?_, ?_, ?_, ?_, ?_, ?_, ?_, ?_, ?_⟩
  · intro h; rw [hL 0 (by decide)] at h; rw [U 24 (by decide)]; exact R.p0 h
  · intro h; rw [hL 1 (by decide)] at h; rw [U 25 (by decide)]; exact R.p1 h
  · intro h; rw [hL 3 (by decide)] at h; rw [U 27 (by decide)]; exact R.p3 h
  · intro h; rw [hL 5 (by decide)] at h; rw [U 29 (by decide)]; exact R.p5 h
  · intro h; rw [hL 7 (by decide)] at h; rw [U 31 (by decide)]; exact R.p7 h
  · intro h; rw [hL 8 (by decide)] at h; rw [U 32 (by decide)]; exact R.p8 h
  · intro h; rw [hL 10 (by decide)] at h; rw [U 34 (by decide)]; exact R.p10 h
  · intro h; rw [hL 11 (by decide)] at h; rw [U 35 (by decide)]; exact R.p11 h
  · intro h; rw [hL 12 (by decide)] at h; rw [U 36 (by decide)]; exact R.p12 h
  · intro h; rw [hL 13 (by decide)] at h; rw [U 37 (by decide)]; exact R.p13 h
  · intro h; rw [hL 15 (by decide)] at h; rw [U 39 (by decide)]; exact R.p15 h
  · intro h; rw [hL 2 (by decide)] at h; rw [U 26 (by decide)]; exact R.m2 h
  · intro h; rw [hL 4 (by decide)] at h; rw [U 28 (by decide)]; exact R.m4 h
  · intro h; rw [hL 6 (by decide)] at h; rw [U 30 (by decide)]; exact R.m6 h
  · intro h; rw [hL 9 (by decide)] at h; rw [U 33 (by decide)]; exact R.m9 h
  · intro h; rw [hL 14 (by decide)] at h; rw [U 38 (by decide)]; exact R.m14 h
  · intro h; rw [hL 16 (by decide)] at h; rw [U 40 (by decide)]; exact R.m16 h
  · intro h k; rw [hL 2 (by decide)] at h; rw [hL 4 (by decide)] at k; rw [U 26 (by decide), U 28 (by decide)]; exact R.q2_4 h k
  · intro h k; rw [hL 2 (by decide)] at h; rw [hL 6 (by decide)] at k; rw [U 26 (by decide), U 30 (by decide)]; exact R.q2_6 h k
  · intro h k; rw [hL 2 (by decide)] at h; rw [hL 9 (by decide)] at k; rw [U 26 (by decide), U 33 (by decide)]; exact R.q2_9 h k
  · intro h k; rw [hL 2 (by decide)] at h; rw [hL 14 (by decide)] at k; rw [U 26 (by decide), U 38 (by decide)]; exact R.q2_14 h k
  · intro h k; rw [hL 2 (by decide)] at h; rw [hL 16 (by decide)] at k; rw [U 26 (by decide), U 40 (by decide)]; exact R.q2_16 h k
  · intro h k; rw [hL 4 (by decide)] at h; rw [hL 6 (by decide)] at k; rw [U 28 (by decide), U 30 (by decide)]; exact R.q4_6 h k
  · intro h k; rw [hL 4 (by decide)] at h; rw [hL 9 (by decide)] at k; rw [U 28 (by decide), U 33 (by decide)]; exact R.q4_9 h k
  · intro h k; rw [hL 4 (by decide)] at h; rw [hL 14 (by decide)] at k; rw [U 28 (by decide), U 38 (by decide)]; exact R.q4_14 h k
  · intro h k; rw [hL 4 (by decide)] at h; rw [hL 16 (by decide)] at k; rw [U 28 (by decide), U 40 (by decide)]; exact R.q4_16 h k
  · intro h k; rw [hL 6 (by decide)] at h; rw [hL 9 (by decide)] at k; rw [U 30 (by decide), U 33 (by decide)]; exact R.q6_9 h k
  · intro h k; rw [hL 6 (by decide)] at h; rw [hL 14 (by decide)] at k; rw [U 30 (by decide), U 38 (by decide)]; exact R.q6_14 h k
  · intro h k; rw [hL 6 (by decide)] at h; rw [hL 16 (by decide)] at k; rw [U 30 (by decide), U 40 (by decide)]; exact R.q6_16 h k
  · intro h k; rw [hL 9 (by decide)] at h; rw [hL 14 (by decide)] at k; rw [U 33 (by decide), U 38 (by decide)]; exact R.q9_14 h k
  · intro h k; rw [hL 9 (by decide)] at h; rw [hL 16 (by decide)] at k; rw [U 33 (by decide), U 40 (by decide)]; exact R.q9_16 h k
  · intro h k; rw [hL 14 (by decide)] at h; rw [hL 16 (by decide)] at k; rw [U 38 (by decide), U 40 (by decide)]; exact R.q14_16 h k
  · intro _; rw [E, U 24 (by decide), U 26 (by decide), U 28 (by decide), U 30 (by decide), U 33 (by decide), U 38 (by decide), U 40 (by decide)]; exact hv
  · intro _; rw [hL 0 (by decide), hL 2 (by decide), hL 4 (by decide), hL 6 (by decide), hL 9 (by decide), hL 14 (by decide), hL 16 (by decide)]; exact hc
  · intro h; rw [hL 18 (by decide)] at h; exact (n17 (R.c18 h) (R.c18 h)).elim
  · intro h; rw [hL 18 (by decide)] at h; exact (n17 (R.c18 h) (R.c18 h)).elim
  · intro h; rw [hL 19 (by decide)] at h; rw [U 4 (by decide), U 42 (by decide)]; exact R.p19 h
  · intro h; rw [hL 19 (by decide)] at h; rw [hL 18 (by decide)]; exact R.c19 h
  · exact R.bel

theorem R2.s18 {n items H : Nat} {w0 w : World} {L L' : Nat → Bool} {x : Nat → Value} (R : R2 n items H w0 L x w) (h0 : L 18 = false) (hL : ∀ j, j ≠ 18 → L' j = L j) (v : Value) (o : Obj) (hv : v = .pointer (some ⟨w.heap.size, 0, none⟩)) (ho : o = .cells (scells (x 24) (x 26) (x 28) (x 30) (x 33) (x 38) (x 40)) 67) (hc : L 17 = true) : R2 n items H w0 L' (upd x 42 v) (w.alloc o) := by
  have U : ∀ s, s ≠ 42 → upd x 42 v s = x s := fun s hs => upd_ne x v hs
  have E : upd x 42 v 42 = v := upd_same x 42 v
  have n17 : L 17 = true → L 18 = true → False := fun _ h => by rw [h0] at h; cases h
  refine ⟨?_, ?_, ?_, ?_, ?_, ?_, ?_, ?_, ?_, ?_, ?_, ?_, ?_, ?_, ?_, ?_, ?_, ?_, ?_, ?_, ?_, ?_, ?_, ?_, ?_, ?_, ?_, ?_, ?_, ?_, ?_, ?_, ?_, ?_, ?_, ?_, ?_, ?_, ?_⟩
  · intro h; rw [hL 0 (by decide)] at h; rw [U 24 (by decide)]; exact R.p0 h
  · intro h; rw [hL 1 (by decide)] at h; rw [U 25 (by decide)]; exact R.p1 h
  · intro h; rw [hL 3 (by decide)] at h; rw [U 27 (by decide)]; exact R.p3 h
  · intro h; rw [hL 5 (by decide)] at h; rw [U 29 (by decide)]; exact R.p5 h
  · intro h; rw [hL 7 (by decide)] at h; rw [U 31 (by decide)]; exact R.p7 h
  · intro h; rw [hL 8 (by decide)] at h; rw [U 32 (by decide)]; exact R.p8 h
  · intro h; rw [hL 10 (by decide)] at h; rw [U 34 (by decide)]; exact R.p10 h
  · intro h; rw [hL 11 (by decide)] at h; rw [U 35 (by decide)]; exact R.p11 h
  · intro h; rw [hL 12 (by decide)] at h; rw [U 36 (by decide)]; exact R.p12 h
  · intro h; rw [hL 13 (by decide)] at h; rw [U 37 (by decide)]; exact R.p13 h
  · intro h; rw [hL 15 (by decide)] at h; rw [U 39 (by decide)]; exact R.p15 h
  · intro h; rw [hL 2 (by decide)] at h; rw [U 26 (by decide)]; exact (R.m2 h).alloc _
  · intro h; rw [hL 4 (by decide)] at h; rw [U 28 (by decide)]; exact (R.m4 h).alloc _
  · intro h; rw [hL 6 (by decide)] at h; rw [U 30 (by decide)]; exact (R.m6 h).alloc _
  · intro h; rw [hL 9 (by decide)] at h; rw [U 33 (by decide)]; exact (R.m9 h).alloc _
  · intro h; rw [hL 14 (by decide)] at h; rw [U 38 (by decide)]; exact (R.m14 h).alloc _
  · intro h; rw [hL 16 (by decide)] at h; rw [U 40 (by decide)]; exact (R.m16 h).alloc _
  · intro h k; rw [hL 2 (by decide)] at h; rw [hL 4 (by decide)] at k; rw [U 26 (by decide), U 28 (by decide)]; exact R.q2_4 h k
  · intro h k; rw [hL 2 (by decide)] at h; rw [hL 6 (by decide)] at k; rw [U 26 (by decide), U 30 (by decide)]; exact R.q2_6 h k
  · intro h k; rw [hL 2 (by decide)] at h; rw [hL 9 (by decide)] at k; rw [U 26 (by decide), U 33 (by decide)]; exact R.q2_9 h k
  · intro h k; rw [hL 2 (by decide)] at h; rw [hL 14 (by decide)] at k; rw [U 26 (by decide), U 38 (by decide)]; exact R.q2_14 h k
  · intro h k; rw [hL 2 (by decide)] at h; rw [hL 16 (by decide)] at k; rw [U 26 (by decide), U 40 (by decide)]; exact R.q2_16 h k
  · intro h k; rw [hL 4 (by decide)] at h; rw [hL 6 (by decide)] at k; rw [U 28 (by decide), U 30 (by decide)]; exact R.q4_6 h k
  · intro h k; rw [hL 4 (by decide)] at h; rw [hL 9 (by decide)] at k; rw [U 28 (by decide), U 33 (by decide)]; exact R.q4_9 h k
  · intro h k; rw [hL 4 (by decide)] at h; rw [hL 14 (by decide)] at k; rw [U 28 (by decide), U 38 (by decide)]; exact R.q4_14 h k
  · intro h k; rw [hL 4 (by decide)] at h; rw [hL 16 (by decide)] at k; rw [U 28 (by decide), U 40 (by decide)]; exact R.q4_16 h k
  · intro h k; rw [hL 6 (by decide)] at h; rw [hL 9 (by decide)] at k; rw [U 30 (by decide), U 33 (by decide)]; exact R.q6_9 h k
  · intro h k; rw [hL 6 (by decide)] at h; rw [hL 14 (by decide)] at k; rw [U 30 (by decide), U 38 (by decide)]; exact R.q6_14 h k
  · intro h k; rw [hL 6 (by decide)] at h; rw [hL 16 (by decide)] at k; rw [U 30 (by decide), U 40 (by decide)]; exact R.q6_16 h k
  · intro h k; rw [hL 9 (by decide)] at h; rw [hL 14 (by decide)] at k; rw [U 33 (by decide), U 38 (by decide)]; exact R.q9_14 h k
  · intro h k; rw [hL 9 (by decide)] at h; rw [hL 16 (by decide)] at k; rw [U 33 (by decide), U 40 (by decide)]; exact R.q9_16 h k
  · intro h k; rw [hL 14 (by decide)] at h; rw [hL 16 (by decide)] at k; rw [U 38 (by decide), U 40 (by decide)]; exact R.q14_16 h k
  · intro h; rw [hL 17 (by decide)] at h; rw [U 41 (by decide), U 24 (by decide), U 26 (by decide), U 28 (by decide), U 30 (by decide), U 33 (by decide), U 38 (by decide), U 40 (by decide)]; exact R.p17 h
  · intro h; rw [hL 17 (by decide)] at h; rw [hL 0 (by decide), hL 2 (by decide), hL 4 (by decide), hL 6 (by decide), hL 9 (by decide), hL 14 (by decide), hL 16 (by decide)]; exact R.c17 h
  · intro _; refine ⟨w.heap.size, by rw [E]; exact hv, R.bel.size, ?_, ?_, ?_, ?_, ?_, ?_, ?_⟩
    · rw [U 24 (by decide), U 26 (by decide), U 28 (by decide), U 30 (by decide), U 33 (by decide), U 38 (by decide), U 40 (by decide), ho]; exact Blk.new w _ 67
    · rw [U 26 (by decide)]; exact (R.m2 (R.c17 hc).2.1).lt
    · rw [U 28 (by decide)]; exact (R.m4 (R.c17 hc).2.2.1).lt
    · rw [U 30 (by decide)]; exact (R.m6 (R.c17 hc).2.2.2.1).lt
    · rw [U 33 (by decide)]; exact (R.m9 (R.c17 hc).2.2.2.2.1).lt
    · rw [U 38 (by decide)]; exact (R.m14 (R.c17 hc).2.2.2.2.2.1).lt
    · rw [U 40 (by decide)]; exact (R.m16 (R.c17 hc).2.2.2.2.2.2).lt
  · intro _; rw [hL 17 (by decide)]; exact hc
  · intro h; rw [hL 19 (by decide)] at h; exact (n17 (R.c18 (R.c19 h)) (R.c19 h)).elim
  · intro h; rw [hL 19 (by decide)] at h; exact (n17 (R.c18 (R.c19 h)) (R.c19 h)).elim
  · exact below_alloc R.bel _

theorem R2.s19 {n items H : Nat} {w0 w : World} {L L' : Nat → Bool} {x : Nat → Value} (R : R2 n items H w0 L x w) (h0 : L 19 = false) (hL : ∀ j, j ≠ 19 → L' j = L j) (v : Value) (hv : v = x 42) (hc : L 18 = true) : R2 n items H w0 L' (upd x 4 v) w := by
  have U : ∀ s, s ≠ 4 → upd x 4 v s = x s := fun s hs => upd_ne x v hs
  have E : upd x 4 v 4 = v := upd_same x 4 v
  have n17 : L 17 = true → L 19 = true → False := fun _ h => by rw [h0] at h; cases h
  refine ⟨?_, ?_, ?_, ?_, ?_, ?_, ?_, ?_, ?_, ?_, ?_, ?_, ?_, ?_, ?_, ?_, ?_, ?_, ?_, ?_, ?_, ?_, ?_, ?_, ?_, ?_, ?_, ?_, ?_, ?_, ?_, ?_, ?_, ?_, ?_, ?_, ?_, ?_, ?_⟩
  · intro h; rw [hL 0 (by decide)] at h; rw [U 24 (by decide)]; exact R.p0 h
  · intro h; rw [hL 1 (by decide)] at h; rw [U 25 (by decide)]; exact R.p1 h
  · intro h; rw [hL 3 (by decide)] at h; rw [U 27 (by decide)]; exact R.p3 h
  · intro h; rw [hL 5 (by decide)] at h; rw [U 29 (by decide)]; exact R.p5 h
  · intro h; rw [hL 7 (by decide)] at h; rw [U 31 (by decide)]; exact R.p7 h
  · intro h; rw [hL 8 (by decide)] at h; rw [U 32 (by decide)]; exact R.p8 h
  · intro h; rw [hL 10 (by decide)] at h; rw [U 34 (by decide)]; exact R.p10 h
  · intro h; rw [hL 11 (by decide)] at h; rw [U 35 (by decide)]; exact R.p11 h
  · intro h; rw [hL 12 (by decide)] at h; rw [U 36 (by decide)]; exact R.p12 h
  · intro h; rw [hL 13 (by decide)] at h; rw [U 37 (by decide)]; exact R.p13 h
  · intro h; rw [hL 15 (by decide)] at h; rw [U 39 (by decide)]; exact R.p15 h
  · intro h; rw [hL 2 (by decide)] at h; rw [U 26 (by decide)]; exact R.m2 h
  · intro h; rw [hL 4 (by decide)] at h; rw [U 28 (by decide)]; exact R.m4 h
  · intro h; rw [hL 6 (by decide)] at h; rw [U 30 (by decide)]; exact R.m6 h
  · intro h; rw [hL 9 (by decide)] at h; rw [U 33 (by decide)]; exact R.m9 h
  · intro h; rw [hL 14 (by decide)] at h; rw [U 38 (by decide)]; exact R.m14 h
  · intro h; rw [hL 16 (by decide)] at h; rw [U 40 (by decide)]; exact R.m16 h
  · intro h k; rw [hL 2 (by decide)] at h; rw [hL 4 (by decide)] at k; rw [U 26 (by decide), U 28 (by decide)]; exact R.q2_4 h k
  · intro h k; rw [hL 2 (by decide)] at h; rw [hL 6 (by decide)] at k; rw [U 26 (by decide), U 30 (by decide)]; exact R.q2_6 h k
  · intro h k; rw [hL 2 (by decide)] at h; rw [hL 9 (by decide)] at k; rw [U 26 (by decide), U 33 (by decide)]; exact R.q2_9 h k
  · intro h k; rw [hL 2 (by decide)] at h; rw [hL 14 (by decide)] at k; rw [U 26 (by decide), U 38 (by decide)]; exact R.q2_14 h k
  · intro h k; rw [hL 2 (by decide)] at h; rw [hL 16 (by decide)] at k; rw [U 26 (by decide), U 40 (by decide)]; exact R.q2_16 h k
  · intro h k; rw [hL 4 (by decide)] at h; rw [hL 6 (by decide)] at k; rw [U 28 (by decide), U 30 (by decide)]; exact R.q4_6 h k
  · intro h k; rw [hL 4 (by decide)] at h; rw [hL 9 (by decide)] at k; rw [U 28 (by decide), U 33 (by decide)]; exact R.q4_9 h k
  · intro h k; rw [hL 4 (by decide)] at h; rw [hL 14 (by decide)] at k; rw [U 28 (by decide), U 38 (by decide)]; exact R.q4_14 h k
  · intro h k; rw [hL 4 (by decide)] at h; rw [hL 16 (by decide)] at k; rw [U 28 (by decide), U 40 (by decide)]; exact R.q4_16 h k
  · intro h k; rw [hL 6 (by decide)] at h; rw [hL 9 (by decide)] at k; rw [U 30 (by decide), U 33 (by decide)]; exact R.q6_9 h k
  · intro h k; rw [hL 6 (by decide)] at h; rw [hL 14 (by decide)] at k; rw [U 30 (by decide), U 38 (by decide)]; exact R.q6_14 h k
  · intro h k; rw [hL 6 (by decide)] at h; rw [hL 16 (by decide)] at k; rw [U 30 (by decide), U 40 (by decide)]; exact R.q6_16 h k
  · intro h k; rw [hL 9 (by decide)] at h; rw [hL 14 (by decide)] at k; rw [U 33 (by decide), U 38 (by decide)]; exact R.q9_14 h k
  · intro h k; rw [hL 9 (by decide)] at h; rw [hL 16 (by decide)] at k; rw [U 33 (by decide), U 40 (by decide)]; exact R.q9_16 h k
  · intro h k; rw [hL 14 (by decide)] at h; rw [hL 16 (by decide)] at k; rw [U 38 (by decide), U 40 (by decide)]; exact R.q14_16 h k
  · intro h; rw [hL 17 (by decide)] at h; rw [U 41 (by decide), U 24 (by decide), U 26 (by decide), U 28 (by decide), U 30 (by decide), U 33 (by decide), U 38 (by decide), U 40 (by decide)]; exact R.p17 h
  · intro h; rw [hL 17 (by decide)] at h; rw [hL 0 (by decide), hL 2 (by decide), hL 4 (by decide), hL 6 (by decide), hL 9 (by decide), hL 14 (by decide), hL 16 (by decide)]; exact R.c17 h
  · intro h; rw [hL 18 (by decide)] at h; obtain ⟨S, s1, s2, s3, s4⟩ := R.p18 h; rw [U 42 (by decide), U 24 (by decide), U 26 (by decide), U 28 (by decide), U 30 (by decide), U 33 (by decide), U 38 (by decide), U 40 (by decide)]; exact ⟨S, s1, s2, s3, s4⟩
  · intro h; rw [hL 18 (by decide)] at h; rw [hL 17 (by decide)]; exact R.c18 h
  · intro _; rw [E, U 42 (by decide)]; exact hv
  · intro _; rw [hL 18 (by decide)]; exact hc
  · exact R.bel

theorem R2.start (n items H : Nat) (w0 w : World) (x : Nat → Value) (hb : Below w0.heap.size w0 w) : R2 n items H w0 (fun _ => false) x w := by
  refine ⟨?_, ?_, ?_, ?_, ?_, ?_, ?_, ?_, ?_, ?_, ?_, ?_, ?_, ?_, ?_, ?_, ?_, ?_, ?_, ?_, ?_, ?_, ?_, ?_, ?_, ?_, ?_, ?_, ?_, ?_, ?_, ?_, ?_, ?_, ?_, ?_, ?_, ?_, ?_⟩ <;> first | exact hb | (intro h; cases h)

theorem wpOp_run {P : Program} {ops : Array Oper} {Q : Exit → Act → World → Prop} {i : Nat} {o : Oper} {a : Act} {w w' : World} {v : Value} {K : Act → World → Prop} (ho : ops[i]? = some o) (hg : o.guard = none) (hr : (execOp a.eval o).run P w = .ok (.value v) w') (hK : K (a.put o.dst v) w') : wpOp P ops Q i K a w := by
  unfold wpOp
  simp only [ho]
  have hw : Region.wanted o (yielded ops a.tmps) = true := by unfold Region.wanted; rw [hg]
  rw [if_pos hw]
  refine .inl ?_
  unfold Oper.wp
  rw [hr]
  exact hK
end Go.Proofs.Qxb6602948a

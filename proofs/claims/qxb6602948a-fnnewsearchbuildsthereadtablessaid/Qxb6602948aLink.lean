import Derived.Test.Qxb6602948aRoot
import Derived.Deep.RegionHeld3
namespace Go.Proofs.Qxb6602948a
open Go.RowKit Go.Kx Go.Uf
set_option linter.unusedVariables false

theorem blk_ne {w : World} {a b : Nat} {x y : Array Value} {s t : TypeId} (ha : Blk w a x s) (hb : Blk w b y t) (h : s ≠ t) : a ≠ b := by
  intro e
  subst e
  unfold Blk at ha hb
  rw [ha] at hb
  simp at hb
  exact h hb.2

theorem cell_other {w : World} {b g o : Nat} (i : Nat) (v : Value) (h : b ≠ g) : (w.setCell ⟨g, i, none⟩ v).cell? ⟨b, o, none⟩ = w.cell? ⟨b, o, none⟩ := World.cell?_of_block (heap_setCell_other w ⟨g, i, none⟩ b v h)

/-- the union-find in memory -/
structure Cm (w : World) (Bv Bp Br Bfv Bf n m : Nat) (p : Nat → Nat) (f : Nat → Int) : Prop where
  v : Blk w Bv #[.slice (some ⟨Bp, 0, none⟩) n n] 22
  p : Blk w Bp (rowOf (nats p) n) 3
  r : Blk w Br #[.func (.func 38) #[] #[.pointer (some ⟨Bv, 0, none⟩)]] 72
  fv : Blk w Bfv #[.slice (some ⟨Bf, 0, none⟩) m m] 22
  f : Blk w Bf (rowOf (ints .i64 f) m) 3

/-- first[x] is none yet -/
theorem link_new (t x n m Bv Bp Br Bfv Bf : Nat) (p : Nat → Nat) (f : Nat → Int) (w : World) (C : Cm w Bv Bp Br Bfv Bf n m p f) (hx : x < m) (hm : m ≤ 65536) (hf : f x < 0) :
    Calls Try.prog 39 #[.int .i64 (t : Nat), .int .i32 (x : Nat), .pointer (some ⟨Bfv, 0, none⟩), .pointer (some ⟨Br, 0, none⟩), .pointer (some ⟨Bv, 0, none⟩)] w fun e w' => e = .returned (.tuple #[]) ∧ w' = w.setCell ⟨Bf, x, none⟩ (.int .i64 (t : Nat)) := by
  have c0 := C.fv.cell 0
  have c1 : w.cell? ⟨Bf, x, none⟩ = some (.int .i64 (f x)) := by rw [C.f.cell, rowOf_get _ hx]
  have f1 := C.f.free x
  have k1 : (x : Int) < (m : Int) := by omega
  go_enter Try.func39, Try.ntmps39
  go_wp2
  exact bodyPost_ret (v := .tuple #[]) (by simp [results, Try.results39]) rfl ⟨rfl, rfl⟩

set_option maxRecDepth 100000 in
set_option maxHeartbeats 1000000 in
theorem link_join (t x u n m Bv Bp Br Bfv Bf : Nat) (p ρ : Nat → Nat) (f : Nat → Int) (w : World) (C : Cm w Bv Bp Br Bfv Bf n m p f) (hx : x < m) (hm : m ≤ 65536) (ht : t < n) (hu : u < n) (hn : n ≤ 4096) (hf : f x = (u : Int)) (h : Ufo p ρ n) (n4 : Bf ≠ Bp) :
    Calls Try.prog 39 #[.int .i64 (t : Nat), .int .i32 (x : Nat), .pointer (some ⟨Bfv, 0, none⟩), .pointer (some ⟨Br, 0, none⟩), .pointer (some ⟨Bv, 0, none⟩)] w fun e w' => ∃ p' : Nat → Nat, e = .returned (.tuple #[]) ∧ Ufo p' (joined ρ (ρ t) (ρ u)) n ∧ Blk w' Bp (rowOf (nats p') n) 3 ∧ Turned Bp w w' := by
  have c0 : w.cell? ⟨Bfv, 0, none⟩ = some (.slice (some ⟨Bf, 0, none⟩) m m) := C.fv.cell 0
  have c1 : w.cell? ⟨Bf, x, none⟩ = some (.int .i64 (u : Int)) := by rw [C.f.cell, rowOf_get _ hx]; show some (Value.int .i64 (f x)) = _; rw [hf]
  have c2 : w.cell? ⟨Bv, 0, none⟩ = some (.slice (some ⟨Bp, 0, none⟩) n n) := C.v.cell 0
  have c3 : w.cell? ⟨Br, 0, none⟩ = some (.func (.func 38) #[] #[.pointer (some ⟨Bv, 0, none⟩)]) := C.r.cell 0
  have k1 : (x : Int) < (m : Int) := by omega
  have k2 : (u : Int) < (n : Int) := by omega
  have n1 : Bv ≠ Bp := blk_ne C.v C.p (by decide)
  have n2 : Br ≠ Bp := blk_ne C.r C.p (by decide)
  have n3 : Bfv ≠ Bp := blk_ne C.fv C.p (by decide)
  have hneg : ¬ ((u : Int) < 0) := by omega
  have hfx : (rowOf (ints .i64 f) m)[x]? = some (.int .i64 (u : Int)) := by rw [rowOf_get _ hx]; show some (Value.int .i64 (f x)) = _; rw [hf]
  have hrt : ρ t < n := by obtain ⟨d, hd⟩ := h; exact hd.rlt t ht
  have k3 : ((ρ t : Nat) : Int) < (n : Int) := by omega
  clear hf
  go_enter Try.func39, Try.ntmps39
  go_wp2
  go_region_held3 (fun w' => w'.cell? ⟨Bv, 0, none⟩ = some (.slice (some ⟨Bp, 0, none⟩) n n) ∧ w'.cell? ⟨Br, 0, none⟩ = some (.func (.func 38) #[] #[.pointer (some ⟨Bv, 0, none⟩)]) ∧ w'.cell? ⟨Bfv, 0, none⟩ = some (.slice (some ⟨Bf, 0, none⟩) m m) ∧ w'.cell? ⟨Bf, x, none⟩ = some (.int .i64 (u : Int))) (first | go_keep | (exact ⟨(cell_other _ _ n1).trans b0, (cell_other _ _ n2).trans b1, (cell_other _ _ n3).trans b2, (cell_other _ _ n4).trans b3⟩))
    (first | (go_at_call_of 38 (Value.int IntKind.i64 ((t : Nat) : Int)); refine (root_any t n Bv Bp p ρ _ (by exact C.v) (by exact C.p) n1 h ht hn).mono ?_; rintro e w1 ⟨p1, rfl, h1, hB1, hT1⟩; have a0 := (hT1.keep (by exact C.v) n1).cell 0; have a1 := (hT1.keep (by exact C.r) n2).cell 0; have a2 := (hT1.keep (by exact C.fv) n3).cell 0; have a3 := ((hT1.keep (by exact C.f) n4).cell x).trans hfx) | (go_at_call_of 38 (Value.int IntKind.i64 ((u : Nat) : Int)); refine (root_any u n Bv Bp p1 ρ _ (by exact hT1.keep (by exact C.v) n1) (by exact hB1) n1 h1 hu hn).mono ?_; rintro e w2 ⟨p2, rfl, h2, hB2, hT2⟩; have b0 := ((hT1.trans hT2).keep (by exact C.v) n1).cell 0; have b1 := ((hT1.trans hT2).keep (by exact C.r) n2).cell 0; have b2 := ((hT1.trans hT2).keep (by exact C.fv) n3).cell 0; have b3 := (((hT1.trans hT2).keep (by exact C.f) n4).cell x).trans hfx; have b4 := hB2.free (ρ t); have b5 := (hB2.cell (ρ t)).trans (rowOf_get _ hrt)))
  have hT : Turned Bp w (w2.setCell ⟨Bp, ρ t, none⟩ (.int .i64 ((ρ u : Nat) : Int))) := Turned.set (Turned.trans ((Turned.refl Bp w).drew.trans hT1) hT2) _ _
  obtain ⟨d2, hd2⟩ := h2
  have hj := hd2.join hrt (hd2.rlt u hu) (hd2.rr ht) (hd2.rr hu)
  have hB := (hB2.set (ρ t) (.int .i64 ((ρ u : Nat) : Int))).congr (nats_set p2 n (ρ t) (ρ u))
  go_end0
  exact ⟨_, rfl, hj, hB, hT⟩

/-- the first users lie among the transactions -/
def FirstOk (f : Nat → Int) (n m : Nat) : Prop := ∀ x, x < m → f x < (n : Int)

theorem ints_set (f : Nat → Int) (m x : Nat) (v : Int) : (rowOf (ints .i64 f) m).setIfInBounds x (.int .i64 v) = rowOf (ints .i64 (upd f x v)) m := by
  rw [rowOf_set]
  apply rowOf_congr
  intro j _
  by_cases h : j = x
  · subst h; simp [upd]
  · simp [upd, h]

def LinkPost (Bv Bp Br Bfv Bf n m B : Nat) (s : St) (w : World) (e : Ending) (w' : World) : Prop :=
  ∃ p', e = .returned (.tuple #[]) ∧ Ufo p' s.rho n ∧ Cm w' Bv Bp Br Bfv Bf n m p' s.first ∧ FirstOk s.first n m ∧ Below B w w' ∧ w'.heap.size = w.heap.size

theorem link_any (t x n m Bv Bp Br Bfv Bf B : Nat) (p : Nat → Nat) (s : St) (w : World) (C : Cm w Bv Bp Br Bfv Bf n m p s.first) (hx : x < m) (hm : m ≤ 65536) (ht : t < n) (hn : n ≤ 4096) (h : Ufo p s.rho n) (hf : FirstOk s.first n m) (n4 : Bf ≠ Bp) (hB1 : B ≤ Bp) (hB2 : B ≤ Bf) :
    Calls Try.prog 39 #[.int .i64 (t : Nat), .int .i32 (x : Nat), .pointer (some ⟨Bfv, 0, none⟩), .pointer (some ⟨Br, 0, none⟩), .pointer (some ⟨Bv, 0, none⟩)] w fun e w' => LinkPost Bv Bp Br Bfv Bf n m B (link t x s) w e w' := by
  have n5 : Bv ≠ Bf := blk_ne C.v C.f (by decide)
  have n6 : Br ≠ Bf := blk_ne C.r C.f (by decide)
  have n7 : Bfv ≠ Bf := blk_ne C.fv C.f (by decide)
  have n1 : Bv ≠ Bp := blk_ne C.v C.p (by decide)
  have n2 : Br ≠ Bp := blk_ne C.r C.p (by decide)
  have n3 : Bfv ≠ Bp := blk_ne C.fv C.p (by decide)
  by_cases hfx : s.first x < 0
  · refine (link_new t x n m Bv Bp Br Bfv Bf p s.first w C hx hm hfx).mono ?_
    rintro e w' ⟨rfl, rfl⟩
    have hl : link t x s = ⟨s.rho, upd s.first x (t : Int)⟩ := by simp [link, hfx]
    rw [hl]
    have hT : Turned Bf w (w.setCell ⟨Bf, x, none⟩ (.int .i64 ((t : Nat) : Int))) := (Turned.refl Bf w).set _ _
    refine ⟨p, rfl, h, ⟨hT.keep C.v n5, hT.keep C.p n4.symm, hT.keep C.r n6, hT.keep C.fv n7, (C.f.set x _).congr (ints_set s.first m x (t : Int))⟩, fun y hy => ?_, hT.below hB2, hT.size⟩
    by_cases e : y = x
    · subst e; simp [upd]; omega
    · simp [upd, e]; exact hf y hy
  · obtain ⟨u, hu⟩ := Int.eq_ofNat_of_zero_le (show 0 ≤ s.first x by omega)
    have hux := hf x hx
    refine (link_join t x u n m Bv Bp Br Bfv Bf p s.rho s.first w C hx hm ht (by omega) hn hu h n4).mono ?_
    rintro e w' ⟨p', rfl, huf, hBp, hT⟩
    have hl : link t x s = ⟨joined s.rho (s.rho t) (s.rho u), s.first⟩ := by unfold link; rw [if_neg hfx, hu]; rfl
    rw [hl]
    exact ⟨p', rfl, huf, ⟨hT.keep C.v n1, hBp, hT.keep C.r n2, hT.keep C.fv n3, hT.keep C.f n4⟩, hf, hT.below hB1, hT.size⟩

end Go.Proofs.Qxb6602948a

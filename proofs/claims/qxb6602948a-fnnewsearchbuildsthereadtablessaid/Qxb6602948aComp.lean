import Derived.Test.Qxb6602948aLink
import Derived.Test.Qxb6602948aOf
import Derived.Test.Qxb6602948aGp
import Derived.Laws.EntriesVeiled
import Derived.Deep.DeepCutAuto
namespace Go.Proofs.Qxb6602948a
open Go.RowKit Go.Kx Go.Uf Go.Maps
set_option linter.unusedVariables false

theorem Cm.later {w w' : World} {Bv Bp Br Bfv Bf n m : Nat} {p : Nat → Nat} {f : Nat → Int} (h : Cm w Bv Bp Br Bfv Bf n m p f) (hb : Below w.heap.size w w') : Cm w' Bv Bp Br Bfv Bf n m p f :=
  ⟨h.v.later hb, h.p.later hb, h.r.later hb, h.fv.later hb, h.f.later hb⟩

theorem Rw2.later {W W' : World} {a : Option Addr} {n c : Nat} {f g : Nat → Value} (h : Rw2 W a n c f g) (hb : Below W.heap.size W W') : Rw2 W' a n c f g := ⟨h.1, fun x hx j hj => ⟨cell_later hb (h.2 x hx j hj).1, cell_later hb (h.2 x hx j hj).2⟩⟩

theorem Rw2.plain {W : World} {a : Option Addr} {n c : Nat} {f g : Nat → Value} (h : Rw2 W a n c f g) (h0 : 0 < n) : ∃ b off, a = some ⟨b, off, none⟩ ∧ b < W.heap.size ∧ ∀ j, j < n → W.cell? ⟨b, off + j * 2, none⟩ = some (f j) ∧ W.cell? ⟨b, off + j * 2 + 1, none⟩ = some (g j) := by
  cases a with
  | none => have := h.1 rfl; omega
  | some x =>
    obtain ⟨b, off, spot⟩ := x
    have h1 := (h.2 _ rfl 0 h0).1
    have hs : spot = none := by simpa [Addr.add] using World.cell?_spot h1
    subst hs
    refine ⟨b, off, rfl, by simpa [Addr.add] using World.block_lt_of_cell? _ _ h1, fun j hj => ?_⟩
    have := h.2 _ rfl j hj
    rw [Addr.add_lit, Addr.add_lit] at this
    rw [Nat.mul_comm j 2, Nat.add_assoc]
    exact this

theorem Rw2.of_blk {W : World} {g n m c : Nat} {t : TypeId} {f1 f2 : Nat → Value} (h : Blk W g (rowOf (pairs f1 f2) (2 * m)) t) (hn : n ≤ m) : Rw2 W (some ⟨g, 0, none⟩) n c f1 f2 := by
  refine ⟨by simp, fun x hx j hj => ?_⟩
  obtain rfl := Option.some.inj hx
  rw [Addr.add_lit, Addr.add_lit, h.cell, h.cell, Nat.zero_add, Nat.zero_add, rowOf_get _ (by omega), rowOf_get _ (by omega), pairs_even, pairs_odd]
  exact ⟨rfl, rfl⟩

/-- what components is told of a history -/
structure Hs (w : World) (S H : Nat) (a0 : Option Addr) (n c0 items : Nat) (imp : Bool) (a3 : Option Addr) (c3 : Nat) (Bq M : Nat) (a6 : Option Addr) (c6 : Nat) (a7 : Option Addr) (N c7 : Nat) (rS rI rw wS wI : Nat → Int) : Prop where
  s : w.cell? ⟨S, 0, none⟩ = some (.pointer (some ⟨H, 0, none⟩))
  h : Blk w H (hcells a0 n c0 items imp a3 (n + 1) c3 Bq M a6 (n + 1) c6 a7 N c7) 63
  rs : Rw w a3 (n + 1) c3 (ints .i64 rS)
  ri : Rw2 w (some ⟨Bq, 0, none⟩) M M (ints .i32 rI) (ints .i32 rw)
  ws : Rw w a6 (n + 1) c6 (ints .i64 wS)
  wi : Rw w a7 N c7 (ints .i32 wI)

theorem Hs.later {w w' : World} {S H : Nat} {a0 : Option Addr} {n c0 items : Nat} {imp : Bool} {a3 : Option Addr} {c3 : Nat} {Bq M : Nat} {a6 : Option Addr} {c6 : Nat} {a7 : Option Addr} {N c7 : Nat} {rS rI rw wS wI : Nat → Int}
    (h : Hs w S H a0 n c0 items imp a3 c3 Bq M a6 c6 a7 N c7 rS rI rw wS wI) (hb : Below w.heap.size w w') : Hs w' S H a0 n c0 items imp a3 c3 Bq M a6 c6 a7 N c7 rS rI rw wS wI :=
  ⟨cell_later hb h.s, h.h.later hb, h.rs.later hb, h.ri.later hb, h.ws.later hb, h.wi.later hb⟩

/-- the numbers of a history that is well formed -/
structure Fine (n items M N : Nat) (rS rI wS wI : Nat → Int) : Prop where
  ln : n ≤ 4096
  li : items ≤ 65536
  lM : M ≤ 16384
  lN : N ≤ 32768
  rs : Starts rS (n + 1) n M
  ws : Starts wS (n + 1) n N
  ri : ∀ q, q < M → 0 ≤ rI q ∧ rI q < (items : Int)
  wi : ∀ q, q < N → 0 ≤ wI q ∧ wI q < (items : Int)

theorem Starts.le {z : Nat → Int} {L N M : Nat} (h : Starts z L N M) {i j : Nat} (hij : i ≤ j) (hj : j ≤ N) : z i ≤ z j := by
  induction j with
  | zero => obtain rfl : i = 0 := by omega
            exact Int.le_refl _
  | succ j ih =>
    by_cases e : i = j + 1
    · subst e; exact Int.le_refl _
    · exact Int.le_trans (ih (by omega) (by omega)) (h.mono j (by omega))

theorem Starts.at {z : Nat → Int} {L N M : Nat} (h : Starts z L N M) {i : Nat} (hi : i < N) : ∃ lo hi' : Nat, z i = (lo : Int) ∧ z (i + 1) = (hi' : Int) ∧ lo ≤ hi' ∧ hi' ≤ M := by
  have h0 := h.le (Nat.zero_le i) (by omega)
  have h1 := h.mono i hi
  have h2 := h.le (show i + 1 ≤ N by omega) (Nat.le_refl N)
  have h3 := h.last
  have h4 := h.zero
  exact ⟨(z i).toNat, (z (i + 1)).toNat, by omega, by omega, by omega, by omega⟩

theorem txn_eq {rS rI wS wI : Nat → Int} {t rlo nr wlo nw : Nat} (e1 : rS t = (rlo : Int)) (e2 : rS (t + 1) = ((rlo + nr : Nat) : Int)) (e3 : wS t = (wlo : Int)) (e4 : wS (t + 1) = ((wlo + nw : Nat) : Int)) (s : St) :
    txn rS rI wS wI t s = linkN (fun k => (wI (wlo + k)).toNat) t nw (linkN (fun k => (rI (rlo + k)).toNat) t nr s) := by
  unfold txn
  rw [e1, e2, e3, e4]
  rw [show (((wlo + nw : Nat) : Int) - (wlo : Int)).toNat = nw by omega, show (((rlo + nr : Nat) : Int) - (rlo : Int)).toNat = nr by omega]
  rfl

theorem Starts.at' {z : Nat → Int} {L N M : Nat} (h : Starts z L N M) {i : Nat} (hi : i < N) : ∃ lo k : Nat, z i = (lo : Int) ∧ z (i + 1) = ((lo + k : Nat) : Int) ∧ lo + k ≤ M := by
  obtain ⟨lo, hi', e1, e2, h1, h2⟩ := h.at hi
  exact ⟨lo, hi' - lo, e1, by rw [e2]; omega, by omega⟩

theorem info22 : (Try.prog.info? 22).map (fun i => (i.zero, i.size, i.bytes)) = some (some (.slice none 0 0), 1, 24) := by kernel_rfl
theorem klaw : Keyed Try.prog 3 := int_keyed Try.underlying3
theorem zero3 (w : World) : (zeroValue 3).run Try.prog w = .ok (.int .i64 0) w := by kernel_rfl

/-- the grouping so far: g, in memory; the map; the roots -/
structure Gr (w wr : World) (Bv Bp Br Bm n k : Nat) (ρ : Nat → Nat) (v : Value) (g : List (Nat × List Nat)) (us : Nat → Value) (D : DataW Unit) (p : Nat → Nat) : Prop where
  gp : Gp wr (Bm + 1) v g us
  own : wr.ownsMap Try.prog 3 (plainElem Try.prog 3) Bm k D
  mp : Mp D g
  uf : Ufo p ρ n
  bv : Blk wr Bv #[.slice (some ⟨Bp, 0, none⟩) n n] 22
  bp : Blk wr Bp (rowOf (nats p) n) 3
  br : Blk wr Br #[.func (.func 38) #[] #[.pointer (some ⟨Bv, 0, none⟩)]] 72
  bel : Below w.heap.size w wr
  sz : Bm + 1 ≤ wr.heap.size
  len : g.length ≤ k
  lens : ∀ c, c < g.length → (gl g c).length ≤ k
  emp : g = [] → v = .slice none 0 0

theorem ownsMap_same {w w' : World} {k : TypeId} {R : Value → Option (DataW Unit × List MemPlace)} {b n : Nat} {D : DataW Unit} (h : w.ownsMap Try.prog k R b n D) (hb : w'.heap[b]? = w.heap[b]?) : w'.ownsMap Try.prog k R b n D := by
  obtain ⟨es, clock, h1, h2⟩ := h
  exact ⟨es, clock, hb.trans h1, h2⟩

theorem ownsRow_shape {w : World} {base : Nat} {e : TypeId} {size : Nat} {v : Value} {n : Nat} {xs : List Value} (h : w.ownsRow base e size v n xs) : ∃ a c, v = .slice a n c := by
  rcases h.2 with ⟨rfl, rfl⟩ | ⟨g, cap, cur, rfl, _⟩
  · exact ⟨_, _, rfl⟩
  · exact ⟨_, _, rfl⟩

/-- behind a call of root -/
theorem Gr.rooted {w wr w' : World} {Bv Bp Br Bm n k : Nat} {ρ : Nat → Nat} {v : Value} {g : List (Nat × List Nat)} {us : Nat → Value} {D : DataW Unit} {p p' : Nat → Nat} (h : Gr w wr Bv Bp Br Bm n k ρ v g us D p) (hv : Bv ≠ Bp) (hr : Br ≠ Bp) (hm : Bm ≠ Bp) (hB : w.heap.size ≤ Bp) (hBm : Bp < Bm) (hT : Turned Bp wr w') (huf : Ufo p' ρ n) (hbp : Blk w' Bp (rowOf (nats p') n) 3) :
    Gr w w' Bv Bp Br Bm n k ρ v g us D p' :=
  ⟨h.gp.same fun b hb _ => hT.block b (by omega), ownsMap_same h.own (hT.block Bm hm), h.mp, huf, hT.keep h.bv hv, hbp, hT.keep h.br hr, h.bel.trans (hT.below hB), by rw [hT.size]; exact h.sz, h.len, h.lens, h.emp⟩

def CompPost (rS rI wS wI : Nat → Int) (lo n : Nat) (w : World) (e : Ending) (w' : World) : Prop :=
  ∃ a c, e = .returned (.slice a (comps rS rI wS wI lo n).length c) ∧ Lists w' a c (comps rS rI wS wI lo n) ∧ Below w.heap.size w w'

/-- the links so far -/
def Lk (w wr : World) (Bv Bp Br Bfv Bf n m : Nat) (s : St) : Prop := ∃ p, Ufo p s.rho n ∧ Cm wr Bv Bp Br Bfv Bf n m p s.first ∧ FirstOk s.first n m ∧ Below w.heap.size w wr

set_option maxRecDepth 100000 in
set_option maxHeartbeats 4000000 in
theorem comp_any (S H lo : Nat) (a0 : Option Addr) (n c0 items : Nat) (imp : Bool) (a3 : Option Addr) (c3 : Nat) (Bq M : Nat) (a6 : Option Addr) (c6 : Nat) (a7 : Option Addr) (N c7 : Nat) (rS rI rw wS wI : Nat → Int) (w : World)
    (hs : Hs w S H a0 n c0 items imp a3 c3 Bq M a6 c6 a7 N c7 rS rI rw wS wI) (hf : Fine n items M N rS rI wS wI) (hlo0 : imp = false → lo = 0) (hlo1 : imp = true → lo = 1) (hc7 : N ≤ c7 ∧ c7 ≤ 1048576) :
    Calls Try.prog 30 #[.pointer (some ⟨S, 0, none⟩)] w fun e w' => CompPost rS rI wS wI lo n w e w' := by
  obtain ⟨i, hi, hz0, hz1, hz2⟩ := info_parts info3
  have ln := hf.ln
  have li := hf.li
  have hmk : ∀ (k : Nat) (w : World), k ≤ 65536 → (Instr.makeSlice 22 (.int .i64 (k : Int)) (.int .i64 (k : Int))).run Try.prog w = .ok (.slice (some ⟨w.heap.size, 0, none⟩) k k) (w.alloc (.cells (rowOf (fun _ => .int .i64 0) k) 3)) := by
    intro k w hk
    have := run_make (P := Try.prog) w 22 3 i (.int .i64 0) Try.underlying22 hi hz0 .i64 .i64 k k (by omega) (by omega) (by rw [hz2]; omega) (by omega)
    rw [this, rowOf_const, hz1]; simp; rfl
  have hmk1 : ∀ w : World, (Instr.makeSlice 22 (.int .i64 (n : Int)) (.int .i64 (n : Int))).run Try.prog w = .ok (.slice (some ⟨w.heap.size, 0, none⟩) n n) (w.alloc (.cells (rowOf (fun _ => .int .i64 0) n) 3)) := fun w => hmk n w (by omega)
  have hmk2 : ∀ w : World, (Instr.makeSlice 22 (.int .i64 (items : Int)) (.int .i64 (items : Int))).run Try.prog w = .ok (.slice (some ⟨w.heap.size, 0, none⟩) items items) (w.alloc (.cells (rowOf (fun _ => .int .i64 0) items) 3)) := fun w => hmk items w (by omega)
  clear hi hz0 hz1 hz2 hmk
  have cs := hs.s
  have ch := hs.h.cell
  have lh := hs.h.lt
  have ls := World.block_lt_of_cell? _ _ hs.s
  have HS : Hid (Hs w S H a0 n c0 items imp a3 c3 Bq M a6 c6 a7 N c7 rS rI rw wS wI) := hs
  clear hs
  go_enter Try.func30, Try.ntmps30
  go_wp2
  go_loopw [33] (fun s wr => ∃ k : Nat, k ≤ n ∧ s = .int .i64 k ∧ Blk wr w.heap.size (rowOf (nats (fun j => if j < k then j else 0)) n) 3 ∧ Blk wr (w.heap.size + 1) #[.slice (some ⟨w.heap.size, 0, none⟩) n n] 22 ∧ wr.heap.size = w.heap.size + 2 ∧ Below w.heap.size w wr) (fun s _ => n - (intOf s).toNat)
  case atStart =>
    refine ⟨0, Nat.zero_le _, rfl, ?_, ?_, by simp, below_alloc (below_alloc (Below.refl _ _) _) _⟩
    · exact ((Blk.new w _ 3).alloc _).congr (rowOf_congr (fun j _ => by simp))
    · have := Blk.new (w.alloc (.cells (rowOf (fun _ => .int .i64 0) n) 3)) #[.slice (some ⟨w.heap.size, 0, none⟩) n n] 22
      rw [World.size_alloc] at this
      exact this
  case round =>
    obtain ⟨k, hk, rfl, hp, hv, hsz, hb⟩ := hrel
    have cv := hv.cell 0
    by_cases hlt : k < n
    · have c1 := (hp.cell k).trans (rowOf_get _ hlt)
      have f1 := hp.free k
      have k1 : (k : Int) < (n : Int) := by omega
      go_wp2
      go_roundw
      case rel =>
        refine ⟨k + 1, by omega, by go_num, (hp.set k _).congr ?_, hv.other _ _ (by simp), by simpa using hsz, hb.setCell (Nat.le_refl _) _⟩
        rw [nats_set]
        apply rowOf_congr
        intro j _
        by_cases e : j = k
        · subst e; simp [upd]
        · by_cases e2 : j < k
          · simp [upd, e, e2, show j < k + 1 by omega]
          · simp [upd, e, e2, show ¬ j < k + 1 by omega]
      case measure => simp [intOf]; omega
    · obtain ⟨w1, hw1⟩ : ∃ w1, w1 = wr := ⟨_, rfl⟩
      subst hw1
      have hp1 : Blk w1 w.heap.size (rowOf (nats (fun j => j)) n) 3 := hp.congr (rowOf_congr (fun j hj => by simp [show j < k by omega]))
      have HS1 : Hid (Hs w1 S H a0 n c0 items imp a3 c3 Bq M a6 c6 a7 N c7 rS rI rw wS wI) := HS.out.later hb
      have cs1 := HS1.out.s
      have ch1 := HS1.out.h.cell
      have lh1 := HS1.out.h.lt
      have ls1 := World.block_lt_of_cell? _ _ HS1.out.s
      have HSZ : Hid (w1.heap.size = w.heap.size + 2) := hsz
      clear hp cs ch lh ls hsz hmk1 cv
      go_wp2
      clear cs1 ch1 lh1 ls1 hmk2
      go_loopw [52] (fun s wr => ∃ k : Nat, k ≤ items ∧ s = .int .i64 k ∧ Cm wr (w.heap.size + 1) w.heap.size w1.heap.size (w1.heap.size + 1 + 1) (w1.heap.size + 1) n items (fun j => j) (fun x => if x < k then -1 else 0) ∧ Below w.heap.size w wr) (fun s _ => items - (intOf s).toNat)
      case atStart =>
        refine ⟨0, Nat.zero_le _, rfl, ⟨((hv.alloc _).alloc _).alloc _, ((hp1.alloc _).alloc _).alloc _, ((Blk.new w1 _ 72).alloc _).alloc _, ?_, ?_⟩, below_alloc (below_alloc (below_alloc hb _) _) _⟩
        · have := Blk.new ((w1.alloc (.cells #[.func (.func 38) #[] #[.pointer (some ⟨w.heap.size + 1, 0, none⟩)]] 72)).alloc (.cells (rowOf (fun _ => .int .i64 0) items) 3)) #[.slice (some ⟨w1.heap.size + 1, 0, none⟩) items items] 22
          rw [World.size_alloc, World.size_alloc] at this
          exact this
        · have := (Blk.new (w1.alloc (.cells #[.func (.func 38) #[] #[.pointer (some ⟨w.heap.size + 1, 0, none⟩)]] 72)) (rowOf (fun _ => .int .i64 0) items) 3).alloc (.cells #[.slice (some ⟨w1.heap.size + 1, 0, none⟩) items items] 22)
          rw [World.size_alloc] at this
          exact this.congr (rowOf_congr (fun j _ => by simp))
      case round =>
        obtain ⟨k2, hk2, rfl, hC, hb2⟩ := hrel
        have cfv := hC.fv.cell 0
        by_cases hlt2 : k2 < items
        · have c1 := (hC.f.cell k2).trans (rowOf_get _ hlt2)
          have f1 := hC.f.free k2
          have k1 : (k2 : Int) < (items : Int) := by omega
          have hle : w.heap.size ≤ w1.heap.size + 1 := by have := HSZ.out; omega
          have m1 : w.heap.size + 1 ≠ w1.heap.size + 1 := by have := HSZ.out; omega
          have m2 : w.heap.size ≠ w1.heap.size + 1 := by have := HSZ.out; omega
          go_wp2
          go_roundw
          case rel =>
            refine ⟨k2 + 1, by omega, by go_num, ⟨hC.v.other _ _ m1, hC.p.other _ _ m2, hC.r.other _ _ (by simp), hC.fv.other _ _ (by simp), (hC.f.set k2 _).congr ?_⟩, hb2.setCell hle _⟩
            rw [ints_set]
            apply rowOf_congr
            intro j _
            by_cases e : j = k2
            · subst e; simp [upd]
            · by_cases e2 : j < k2
              · simp [upd, e, e2, show j < k2 + 1 by omega]
              · simp [upd, e, e2, show ¬ j < k2 + 1 by omega]
          case measure => simp [intOf]; omega
        · obtain ⟨w2, hw2⟩ : ∃ w2, w2 = wr := ⟨_, rfl⟩
          subst hw2
          have hC2 : Cm w2 (w.heap.size + 1) w.heap.size w1.heap.size (w1.heap.size + 1 + 1) (w1.heap.size + 1) n items (fun j => j) (fun _ => -1) := ⟨hC.v, hC.p, hC.r, hC.fv, hC.f.congr (rowOf_congr (fun j hj => by simp [show j < k2 by omega]))⟩
          have HS2 : Hid (Hs w2 S H a0 n c0 items imp a3 c3 Bq M a6 c6 a7 N c7 rS rI rw wS wI) := HS.out.later hb2
          have cs2 := HS2.out.s
          have ch2 := HS2.out.h.cell
          clear hC hp1 hv hb HS1 cfv
          go_upto_if 66 with fail

          go_cut [10] (fun v wc => v = .int .i64 (lo : Nat) ∧ wc = w2)
          case first =>
            cases imp
            · obtain rfl := hlo0 rfl
              go_wp2
              go_meet
              case rel => exact ⟨rfl, rfl⟩
            · obtain rfl := hlo1 rfl
              go_wp2
              go_meet
              case rel => exact ⟨rfl, rfl⟩
          case rest =>
            obtain ⟨rfl, rfl⟩ := hcut
            have hne4 : w1.heap.size + 1 ≠ w.heap.size := by have := HSZ.out; omega
            have hle4 : w.heap.size ≤ w1.heap.size + 1 := by have := HSZ.out; omega
            go_wp2
            clear cs2 ch2 HS2
            go_loopw [11] (fun s wr => ∃ j : Nat, j ≤ n - lo ∧ s = .int .i64 ((lo + j : Nat) : Int) ∧ Lk w wr (w.heap.size + 1) w.heap.size w1.heap.size (w1.heap.size + 1 + 1) (w1.heap.size + 1) n items (upTo rS rI wS wI lo j)) (fun s _ => n - (intOf s).toNat)
            case atStart => exact ⟨0, Nat.zero_le _, rfl, fun t => t, ufo_id n, hC2, fun x _ => by simp [upTo, st0]; omega, hb2⟩
            case round =>
              obtain ⟨j, hj, rfl, p3, huf3, hC3, hfo3, hb3⟩ := hrel
              obtain ⟨w3, hw3⟩ : ∃ w3, w3 = wr := ⟨_, rfl⟩
              subst hw3
              obtain ⟨t, ht⟩ : ∃ t, t = lo + j := ⟨_, rfl⟩
              have HT : Hid (t = lo + j) := ht
              rw [← ht]
              clear ht
              by_cases hlt3 : t < n
              · have HS3 := HS.out.later hb3
                have cs3 := HS3.s
                have ch3 := HS3.h.cell
                obtain ⟨rlo, nr, re1, re2, re4⟩ := hf.rs.at' hlt3
                obtain ⟨wlo, nw, we1, we2, we4⟩ := hf.ws.at' hlt3
                have TX : Hid (txn rS rI wS wI t (upTo rS rI wS wI lo j) = linkN (fun k => (wI (wlo + k)).toNat) t nw (linkN (fun k => (rI (rlo + k)).toNat) t nr (upTo rS rI wS wI lo j))) := txn_eq re1 re2 we1 we2 _
                have HRS : Hid (rS t = (rlo : Int) ∧ rS (t + 1) = ((rlo + nr : Nat) : Int)) := ⟨re1, re2⟩
                have HWS : Hid (wS t = (wlo : Int) ∧ wS (t + 1) = ((wlo + nw : Nat) : Int)) := ⟨we1, we2⟩
                have lM := hf.lM
                have lN := hf.lN
                clear re1 re2 we1 we2
                go_wp2_with fail
                refine (of40 a3 (n + 1) c3 rS (some ⟨Bq, 0, none⟩) M M t rlo (rlo + nr) (ints .i32 rI) (ints .i32 rw) _ HS3.rs (by simp) (Nat.le_refl _) (by omega) (by omega) (by omega) HRS.out.1 HRS.out.2 (by omega) re4).mono ?_
                rintro e w4 ⟨ar, cr, rfl, hRW, hb4⟩
                rw [Nat.add_sub_cancel_left] at hRW ⊢
                have HRW : Hid (∀ W, Rw2 W (some ⟨Bq, 0, none⟩) M M (ints .i32 rI) (ints .i32 rw) → Rw2 W ar nr cr (fun j => ints .i32 rI (rlo + j)) (fun j => ints .i32 rw (rlo + j))) := hRW
                have L4 : Lk w w4 (w.heap.size + 1) w.heap.size w1.heap.size (w1.heap.size + 1 + 1) (w1.heap.size + 1) n items (upTo rS rI wS wI lo j) := ⟨p3, huf3, hC3.later hb4, hfo3, below_next hb3 hb4⟩
                clear hRW HS3 cs3 ch3 huf3 hC3 hfo3 hb3
                go_wp2
                go_loopw [83] (fun s wr => ∃ k : Nat, k ≤ nr ∧ s = .int .i64 k ∧ Lk w wr (w.heap.size + 1) w.heap.size w1.heap.size (w1.heap.size + 1 + 1) (w1.heap.size + 1) n items (linkN (fun k => (rI (rlo + k)).toNat) t k (upTo rS rI wS wI lo j))) (fun s _ => nr - (intOf s).toNat)
                case atStart => exact ⟨0, Nat.zero_le _, rfl, L4⟩
                case round =>
                  obtain ⟨k4, hk4, rfl, L5⟩ := hrel
                  obtain ⟨w5, hw5⟩ : ∃ w5, w5 = wr := ⟨_, rfl⟩
                  subst hw5
                  obtain ⟨p5, huf5, hC5, hfo5, hb5⟩ := L5
                  have HS5 := HS.out.later hb5
                  by_cases hlt4 : k4 < nr
                  · obtain ⟨bq, oq, rfl, ltq, dq⟩ := (HRW.out _ HS5.ri).plain (by omega)
                    obtain ⟨x, hx⟩ := Int.eq_ofNat_of_zero_le (hf.ri (rlo + k4) (by omega)).1
                    have hxm := (hf.ri (rlo + k4) (by omega)).2
                    have d1 : w5.cell? ⟨bq, oq + k4 * 2, none⟩ = some (.int .i32 (x : Int)) := by rw [(dq k4 hlt4).1]; show some (Value.int .i32 (rI (rlo + k4))) = _; rw [hx]
                    have d2 := (dq k4 hlt4).2
                    have kk : (k4 : Int) < (nr : Int) := by omega
                    have HX : Hid (rI (rlo + k4) = (x : Int)) := hx
                    rw [hx] at hxm
                    have C5 := hC5.later ((Below.refl w5.heap.size w5).alloc (Nat.le_refl _) (.cells #[.int .i32 (x : Int), .int .i32 (rw (rlo + k4))] 59))
                    clear dq hx HS5
                    go_wp2_with fail
                    refine (link_any t x n items (w.heap.size + 1) w.heap.size w1.heap.size (w1.heap.size + 1 + 1) (w1.heap.size + 1) w.heap.size p5 _ _ (by exact C5) (by omega) (by omega) hlt3 (by omega) huf5 hfo5 hne4 (Nat.le_refl _) hle4).mono ?_
                    rintro e w6 ⟨p6, rfl, huf6, hC6, hfo6, hb6, hs6⟩
                    have eL : link t x (linkN (fun k => (rI (rlo + k)).toNat) t k4 (upTo rS rI wS wI lo j)) = linkN (fun k => (rI (rlo + k)).toNat) t (k4 + 1) (upTo rS rI wS wI lo j) := by show _ = link t ((rI (rlo + k4)).toNat) _; rw [HX.out]; rfl
                    rw [eL] at huf6 hC6 hfo6
                    have L6 : Lk w w6 (w.heap.size + 1) w.heap.size w1.heap.size (w1.heap.size + 1 + 1) (w1.heap.size + 1) n items (linkN (fun k => (rI (rlo + k)).toNat) t (k4 + 1) (upTo rS rI wS wI lo j)) := ⟨p6, huf6, hC6, hfo6, (below_alloc hb5 _).trans hb6⟩
                    clear eL huf6 hC6 hfo6 hb6 hs6 huf5 hC5 hfo5 hb5 C5 d1 d2
                    go_wp2
                    go_roundw
                    case rel => exact ⟨k4 + 1, by omega, by go_num, L6⟩
                    case measure => simp [intOf]; omega
                  · obtain rfl : k4 = nr := by omega
                    have cs5 := HS5.s
                    have ch5 := HS5.h.cell
                    go_wp2_with fail
                    refine (of34 a6 (n + 1) c6 wS a7 N c7 t wlo (wlo + nw) (ints .i32 wI) _ HS5.ws HS5.wi.1 hc7.1 hc7.2 (by omega) (by omega) HWS.out.1 HWS.out.2 (by omega) we4).mono ?_
                    rintro e w6 ⟨ai, cw, rfl, hRW2, hb6⟩
                    rw [Nat.add_sub_cancel_left] at hRW2 ⊢
                    have HRW2 : Hid (∀ W, Rw W a7 N c7 (ints .i32 wI) → Rw W ai nw cw (fun j => ints .i32 wI (wlo + j))) := hRW2
                    have L6 : Lk w w6 (w.heap.size + 1) w.heap.size w1.heap.size (w1.heap.size + 1 + 1) (w1.heap.size + 1) n items (linkN (fun k => (rI (rlo + k)).toNat) t k4 (upTo rS rI wS wI lo j)) := ⟨p5, huf5, hC5.later hb6, hfo5, below_next hb5 hb6⟩
                    clear hRW2 HS5 cs5 ch5 huf5 hC5 hfo5 hb5
                    go_wp2
                    go_loopw [103] (fun s wr => ∃ k : Nat, k ≤ nw ∧ s = .int .i64 k ∧ Lk w wr (w.heap.size + 1) w.heap.size w1.heap.size (w1.heap.size + 1 + 1) (w1.heap.size + 1) n items (linkN (fun k => (wI (wlo + k)).toNat) t k (linkN (fun k => (rI (rlo + k)).toNat) t k4 (upTo rS rI wS wI lo j)))) (fun s _ => nw - (intOf s).toNat)
                    case atStart => exact ⟨0, Nat.zero_le _, rfl, L6⟩
                    case round =>
                      obtain ⟨k7, hk7, rfl, L7⟩ := hrel
                      obtain ⟨w7, hw7⟩ : ∃ w7, w7 = wr := ⟨_, rfl⟩
                      subst hw7
                      obtain ⟨p7, huf7, hC7, hfo7, hb7⟩ := L7
                      have HS7 := HS.out.later hb7
                      by_cases hlt7 : k7 < nw
                      · obtain ⟨bq, oq, rfl, ltq, dq⟩ := (HRW2.out _ HS7.wi).plain (by omega)
                        obtain ⟨x, hx⟩ := Int.eq_ofNat_of_zero_le (hf.wi (wlo + k7) (by omega)).1
                        have hxm := (hf.wi (wlo + k7) (by omega)).2
                        have d1 : w7.cell? ⟨bq, oq + k7, none⟩ = some (.int .i32 (x : Int)) := by rw [dq k7 hlt7]; show some (Value.int .i32 (wI (wlo + k7))) = _; rw [hx]
                        have kk : (k7 : Int) < (nw : Int) := by omega
                        have HX : Hid (wI (wlo + k7) = (x : Int)) := hx
                        rw [hx] at hxm
                        clear dq hx HS7
                        go_wp2_with fail
                        refine (link_any t x n items (w.heap.size + 1) w.heap.size w1.heap.size (w1.heap.size + 1 + 1) (w1.heap.size + 1) w.heap.size p7 _ _ (by exact hC7) (by omega) (by omega) hlt3 (by omega) huf7 hfo7 hne4 (Nat.le_refl _) hle4).mono ?_
                        rintro e w8 ⟨p8, rfl, huf8, hC8, hfo8, hb8, hs8⟩
                        have eL : link t x (linkN (fun k => (wI (wlo + k)).toNat) t k7 (linkN (fun k => (rI (rlo + k)).toNat) t k4 (upTo rS rI wS wI lo j))) = linkN (fun k => (wI (wlo + k)).toNat) t (k7 + 1) (linkN (fun k => (rI (rlo + k)).toNat) t k4 (upTo rS rI wS wI lo j)) := by show _ = link t ((wI (wlo + k7)).toNat) _; rw [HX.out]; rfl
                        rw [eL] at huf8 hC8 hfo8
                        have L8 : Lk w w8 (w.heap.size + 1) w.heap.size w1.heap.size (w1.heap.size + 1 + 1) (w1.heap.size + 1) n items (linkN (fun k => (wI (wlo + k)).toNat) t (k7 + 1) (linkN (fun k => (rI (rlo + k)).toNat) t k4 (upTo rS rI wS wI lo j))) := ⟨p8, huf8, hC8, hfo8, hb7.trans hb8⟩
                        clear eL huf8 hC8 hfo8 hb8 hs8 huf7 hC7 hfo7 hb7 d1
                        go_wp2
                        go_roundw
                        case rel => exact ⟨k7 + 1, by omega, by go_num, L8⟩
                        case measure => simp [intOf]; omega
                      · obtain rfl : k7 = nw := by omega
                        have L9 : Lk w w7 (w.heap.size + 1) w.heap.size w1.heap.size (w1.heap.size + 1 + 1) (w1.heap.size + 1) n items (upTo rS rI wS wI lo (j + 1)) := by
                          show Lk w w7 _ _ _ _ _ n items (txn rS rI wS wI (lo + j) (upTo rS rI wS wI lo j))
                          rw [← HT.out, TX.out]
                          exact ⟨p7, huf7, hC7, hfo7, hb7⟩
                        clear HS7 huf7 hC7 hfo7 hb7
                        go_wp2
                        go_roundw
                        case rel => exact ⟨j + 1, by have := HT.out; omega, by have := HT.out; rw [show ((lo + (j + 1) : Nat) : Int) = (t : Int) + 1 by omega], L9⟩
                        case measure => simp [intOf]; omega
              · have hjn : j = n - lo := by have := HT.out; omega
                subst hjn
                have LK : Hid (Lk w w3 (w.heap.size + 1) w.heap.size w1.heap.size (w1.heap.size + 1 + 1) (w1.heap.size + 1) n items (upTo rS rI wS wI lo (n - lo))) := ⟨p3, huf3, hC3, hfo3, hb3⟩
                have hm3 : w.heap.size < w3.heap.size := hC3.p.lt
                have hr3 : w1.heap.size < w3.heap.size := hC3.r.lt
                have hGR : Gr w (w3.alloc (.map #[] 0)) (w.heap.size + 1) w.heap.size w1.heap.size w3.heap.size n 0 (upTo rS rI wS wI lo (n - lo)).rho (.slice none 0 0) [] (fun _ => .slice none 0 0) (.map []) p3 :=
                  ⟨Gp.start _ _ _, World.ownsMap_made _ _ _ _, Mp.start, huf3, hC3.v.alloc _, hC3.p.alloc _, hC3.r.alloc _, below_alloc hb3 _, by simp, by simp, by simp, fun _ => rfl⟩
                obtain ⟨ρ, hρ⟩ : ∃ ρ, ρ = (upTo rS rI wS wI lo (n - lo)).rho := ⟨_, rfl⟩
                rw [← hρ] at hGR
                have HRHO : Hid (ρ = (upTo rS rI wS wI lo (n - lo)).rho) := hρ
                clear huf3 hC3 hfo3 hb3 hρ LK HS
                have hmm := @run_makeMap Try.prog
                go_wp2
                clear hmm
                go_loopw [16, 18] (fun v s wr => ∃ (j : Nat) (us : Nat → Value) (D : DataW Unit) (p : Nat → Nat) (av : Option Addr) (cv : Nat), j ≤ n - lo ∧ s = .int .i64 ((lo + j : Nat) : Int) ∧ v = .slice av (group ρ lo j).length cv ∧ Gr w wr (w.heap.size + 1) w.heap.size w1.heap.size w3.heap.size n j ρ (.slice av (group ρ lo j).length cv) (group ρ lo j) us D p) (fun _ s _ => n - (intOf s).toNat)
                case atStart => exact ⟨0, _, _, p3, none, 0, Nat.zero_le _, rfl, rfl, hGR⟩
                case round =>
                  obtain ⟨j, us, D, p4, av, cv, hj4, rfl, rfl, hG4⟩ := hrel
                  obtain ⟨w4, hw4⟩ : ∃ w4, w4 = wr := ⟨_, rfl⟩
                  subst hw4
                  obtain ⟨t, ht⟩ : ∃ t, t = lo + j := ⟨_, rfl⟩
                  have HT4 : Hid (t = lo + j) := ht
                  rw [← ht]
                  obtain ⟨g, hg⟩ : ∃ g, g = group ρ lo j := ⟨_, rfl⟩
                  have HG4 : Hid (g = group ρ lo j) := hg
                  rw [← hg] at hG4 ⊢
                  clear ht hGR hg
                  by_cases hlt6 : t < n
                  · have cr4 := hG4.br.cell 0
                    have hrt : ρ t < n := by obtain ⟨d, hd⟩ := hG4.uf; exact hd.rlt t hlt6
                    have hwf : (Lit.int .i64 ((ρ t : Nat) : Int)).wf = true := WalkArith.wf_i64 (by omega)
                    go_wp2_with fail
                    refine (root_any t n (w.heap.size + 1) w.heap.size p4 ρ _ hG4.bv hG4.bp (by omega) hG4.uf hlt6 (by omega)).mono ?_
                    rintro e w5 ⟨p5, rfl, huf5, hbp5, hT5⟩
                    have hG5 := hG4.rooted (by omega) (by have := HSZ.out; omega) (by omega) (Nat.le_refl _) hm3 hT5 huf5 hbp5
                    clear hG4 cr4 huf5 hbp5 hT5
                    go_upto_if 128 with (at_lookup; refine wpList_lookup_own_ok_int _ rfl _ _ 76 rfl 3 3 .i64 klaw Try.underlying76 Try.underlying3 (zero3 _) w3.heap.size j D rfl hG5.own _ _ rfl (keyOf_int_mk Try.underlying3 hwf) ?_; intro c hat hwc)
                    have hn1 : w.heap.size + 1 ≠ w.heap.size := by omega
                    have hn2 : w1.heap.size ≠ w.heap.size := by have := HSZ.out; omega
                    have hn3 : w3.heap.size ≠ w.heap.size := by omega
                    have hn4 : w1.heap.size ≠ w3.heap.size := by omega
                    have hn5 : w.heap.size + 1 ≠ w3.heap.size := by have := HSZ.out; omega
                    have lj : j ≤ 4096 := by omega
                    have lg := hG5.len
                    obtain ⟨i2, hi2, hy0, hy1, hy2⟩ := info_parts info22
                    obtain ⟨i3, hi3, hx0, hx1, hx2⟩ := info_parts info3
                    go_cut [16, 19, 20] (fun v cc _ wc => ∃ (g' : List (Nat × List Nat)) (c' : Nat) (us' : Nat → Value) (D' : DataW Unit) (p' : Nat → Nat) (av' : Option Addr) (cv' : Nat), v = .slice av' g'.length cv' ∧ cc = .int .i64 (c' : Nat) ∧ c' < g'.length ∧ addTo g' c' t = put (ρ t) t g ∧ (∀ x, x < g'.length → (gl g' x).length ≤ j) ∧ Gr w wc (w.heap.size + 1) w.heap.size w1.heap.size w3.heap.size n (j + 1) ρ (.slice av' g'.length cv') g' us' D' p')
                    case first =>
                      by_cases hfd : ∃ x, x < g.length ∧ gk g x = ρ t
                      · have hh : Maps.has D (.int .i64 ((ρ t : Nat) : Int)) = true := (hG5.mp.has (ρ t)).2 hfd
                        obtain ⟨c1, hc1, hk1⟩ := hfd
                        have hca := hG5.mp.at' c1 hc1
                        rw [hk1, hat] at hca
                        obtain rfl : c = (c1 : Int) := by simpa using hca
                        have HK : Hid (gk g c1 = ρ t) := hk1
                        have HG5 : Hid (Gr w w5 (w.heap.size + 1) w.heap.size w1.heap.size w3.heap.size n j ρ (.slice av g.length cv) g us D p5) := hG5
                        clear hca hk1 hat hG5
                        rw [hh]
                        clear hh
                        go_wp2
                        go_meet
                        case rel => exact ⟨g, c1, us, D, p5, av, cv, rfl, rfl, hc1, (put_old g c1 (ρ t) t hc1 HK.out HG5.out.mp.one).symm, HG5.out.lens, HG5.out.gp, HG5.out.own.mono (by omega), HG5.out.mp, HG5.out.uf, HG5.out.bv, HG5.out.bp, HG5.out.br, HG5.out.bel, HG5.out.sz, by omega, fun x hx => Nat.le_succ_of_le (HG5.out.lens x hx), HG5.out.emp⟩
                      · have hh : Maps.has D (.int .i64 ((ρ t : Nat) : Int)) = false := by
                          cases hq : Maps.has D (.int .i64 ((ρ t : Nat) : Int)) with
                          | false => rfl
                          | true => exact absurd ((hG5.mp.has (ρ t)).1 hq) hfd
                        have HF : Hid (¬ ∃ x, x < g.length ∧ gk g x = ρ t) := hfd
                        have cr5 := hG5.br.cell 0
                        clear hfd hat hwc
                        rw [hh]
                        go_wp2_with fail
                        refine (root_any t n (w.heap.size + 1) w.heap.size p5 ρ _ hG5.bv hG5.bp (by omega) hG5.uf hlt6 (by omega)).mono ?_
                        rintro e w6 ⟨p6, rfl, huf6, hbp6, hT6⟩
                        have hG6 := hG5.rooted (by omega) hn2 (by omega) (Nat.le_refl _) hm3 hT6 huf6 hbp6
                        clear hG5 cr5 huf6 hbp6 hT6 hh
                        have hwl : (Lit.int .i64 ((g.length : Nat) : Int)).wf = true := WalkArith.wf_i64 (by omega)
                        go_wp2_with (at_mapUpdate; refine wpList_mapUpdate_own _ rfl _ _ _ 76 rfl 3 3 klaw Try.underlying76 _ w3.heap.size j D rfl hG6.own (by unfold maxLen; omega) _ _ _ rfl rfl (keyOf_int_mk Try.underlying3 hwf) (.lit (.int .i64 ((g.length : Nat) : Int))) [] (plainElem_int Try.underlying3 hwl) ?_)
                        intro w7 hown7 hgrow7
                        have gp7 : Gp w7 (w3.heap.size + 1) (.slice av g.length cv) g us := hG6.gp.same fun b hb hlt => hgrow7.block b hlt (by simp; omega)
                        have bv7 : Blk w7 (w.heap.size + 1) #[.slice (some ⟨w.heap.size, 0, none⟩) n n] 22 := (hgrow7.block _ hG6.bv.lt (by simp; omega)).trans hG6.bv
                        have bp7 : Blk w7 w.heap.size (rowOf (nats p6) n) 3 := (hgrow7.block _ hG6.bp.lt (by simp; omega)).trans hG6.bp
                        have br7 : Blk w7 w1.heap.size #[.func (.func 38) #[] #[.pointer (some ⟨w.heap.size + 1, 0, none⟩)]] 72 := (hgrow7.block _ hG6.br.lt (by simp; omega)).trans hG6.br
                        have bel7 : Below w.heap.size w w7 := hG6.bel.grown hgrow7 hG6.bel.size (fun q hq => by cases hq; omega)
                        have sz7 : w3.heap.size + 1 ≤ w7.heap.size := Nat.le_trans hG6.sz hgrow7.size
                        have mp7 := hG6.mp.snoc (ρ t) HF.out trivial
                        have uf7 := hG6.uf
                        have lens7 := hG6.lens
                        have MP7 : Hid (Mp (D.put (.int .i64 ((ρ t : Nat) : Int)) (.lit (.int .i64 ((g.length : Nat) : Int)))) (g ++ [(ρ t, [])])) := mp7
                        have OW7 : Hid (w7.ownsMap Try.prog 3 (plainElem Try.prog 3) w3.heap.size (j + 1) (D.put (.int .i64 ((ρ t : Nat) : Int)) (.lit (.int .i64 ((g.length : Nat) : Int))))) := hown7
                        have LE7 : Hid (∀ x, x < g.length → (gl g x).length ≤ j) := lens7
                        clear hG6 hown7 hgrow7 mp7 lens7
                        go_wp2_with (at_builtin; refine wpList_append_own _ rfl (.tmp 136) (.tmp 137) 41 rfl (w3.heap.size + 1) 22 i2 (.slice none 0 0) 1 24 Try.underlying41 hi2 hy0 hy1 hy2 rfl (by decide) _ _ _ rfl (gp7.outer.alloc _) ⟨w7.heap.size, 0, none⟩ 1 1 [.slice none 0 0] rfl rfl ?c1 ?c2 ?c3 ?c4 ?c5 ?_)
                        case c1 => exact cell_one_new _ _ _
                        case c2 => intro u hu; simp at hu; subst hu; rfl
                        case c3 => unfold maxLen; omega
                        case c4 => omega
                        case c5 => simp; omega
                        intro v8 w8 hown8 hg8 _
                        have gp8 := gp7.snoc (r := ρ t) (below_alloc (Below.refl _ _) _) hown8 hg8
                        have keep8 : ∀ b, b < w3.heap.size + 1 → w8.heap[b]? = w7.heap[b]? := fun b hb => (hg8.block b (by simp; omega) (fun e => by have := (gp7.outer.lt b e.symm).1; omega)).trans (Below.heap_alloc _ _ _ (by omega))
                        have ow8 := ownsMap_same OW7.out (keep8 w3.heap.size (by omega))
                        have bv8 : Blk w8 (w.heap.size + 1) #[.slice (some ⟨w.heap.size, 0, none⟩) n n] 22 := (keep8 _ (by omega)).trans bv7
                        have bp8 : Blk w8 w.heap.size (rowOf (nats p6) n) 3 := (keep8 _ (by omega)).trans bp7
                        have br8 : Blk w8 w1.heap.size #[.func (.func 38) #[] #[.pointer (some ⟨w.heap.size + 1, 0, none⟩)]] 72 := (keep8 _ (by omega)).trans br7
                        have bel8 : Below w.heap.size w w8 := (below_alloc bel7 _).grown hg8 (by have := bel7.size; simp; omega) (fun q hq => by have := (gp7.outer.lt q hq).1; omega)
                        have sz8 : w3.heap.size + 1 ≤ w8.heap.size := by have := hg8.size; simp at this; omega
                        obtain ⟨av8, cv8, hv8⟩ := ownsRow_shape hown8
                        subst hv8
                        have len8 : g.length + 1 = (g ++ [(ρ t, ([] : List Nat))]).length := by simp
                        clear hown8 hg8 keep8 gp7 bv7 bp7 br7 bel7
                        go_wp2
                        go_meet
                        case rel =>
                          refine ⟨g ++ [(ρ t, [])], g.length, upd us g.length (.slice none 0 0), _, p6, av8, cv8, by rw [← len8], rfl, by simp, (put_new g (ρ t) t HF.out).symm, fun x hx => ?_, by rw [← len8]; exact gp8, ow8, MP7.out, uf7, bv8, bp8, br8, bel8, sz8, by simp; omega, fun x hx => ?_, by simp⟩
                          · by_cases q : x = g.length
                            · subst q; rw [gl_snoc_eq]; simp
                            · rw [gl_snoc_lt (by simp at hx; omega)]; exact LE7.out x (by simp at hx; omega)
                          · by_cases q : x = g.length
                            · subst q; rw [gl_snoc_eq]; simp
                            · rw [gl_snoc_lt (by simp at hx; omega)]; exact Nat.le_succ_of_le (LE7.out x (by simp at hx; omega))
                    case rest =>
                      obtain ⟨g', c', us', D', p', av', cv', rfl, rfl, hc', hadd, hlens, hG⟩ := hcut
                      obtain ⟨go, rfl⟩ : ∃ go, av' = some ⟨go, 0, none⟩ := by
                        rcases hG.gp.outer.2 with ⟨e, h0⟩ | ⟨go, cap, cur, e, _⟩
                        · omega
                        · simp at e; exact ⟨go, e.1⟩
                      obtain ⟨au, cu, hu⟩ := ownsRow_shape (hG.gp.inner c' hc')
                      have co : wc.cell? ⟨go, c', none⟩ = some (.slice au (gl g' c').length cu) := by rw [hG.gp.outer.cellAt c' (by omega)]; simp [hc', hu]
                      have kc : (c' : Int) < (g'.length : Int) := by omega
                      have hin := hG.gp.inner c' hc'
                      rw [hu] at hin
                      have hll := hlens c' hc'
                      have hszc := hG.sz
                      have HGG : Hid (Gr w wc (w.heap.size + 1) w.heap.size w1.heap.size w3.heap.size n (j + 1) ρ (.slice (some ⟨go, 0, none⟩) g'.length cv') g' us' D' p') := hG
                      have HADD : Hid (addTo g' c' t = put (ρ t) t g) := hadd
                      have HLEN : Hid (∀ x, x < g'.length → (gl g' x).length ≤ j) := hlens
                      have HU : Hid (us' c' = .slice au (gl g' c').length cu) := hu
                      clear hG hadd hlens hu
                      go_wp2_with (at_builtin; refine wpList_append_own_at _ rfl (.tmp 144) (.tmp 146) 22 rfl (w3.heap.size + 1) 3 i3 (.int .i64 0) 1 8 Try.underlying22 hi3 hx0 hx1 hx2 rfl (by decide) _ _ _ rfl (hin.alloc _) ⟨wc.heap.size, 0, none⟩ 1 1 [.int .i64 ((t : Nat) : Int)] rfl rfl ?d1 ?d2 ?d3 ?d4 ?d5 ?_)
                      case d1 => exact cell_one_new _ _ _
                      case d2 => intro u hu; simp at hu; subst hu; rfl
                      case d3 => unfold maxLen; omega
                      case d4 => omega
                      case d5 => simp; omega
                      intro u9 w9 hown9 hg9 _ hloc9
                      have hg9' : (wc.alloc (.cells #[.int .i64 ((t : Nat) : Int)] 3)).grownBy w9 (us' c').ownBlock := by rw [HU.out]; exact hg9
                      have hloc9' : u9.ownBlock = (us' c').ownBlock ∨ u9.ownBlock = some (wc.alloc (.cells #[.int .i64 ((t : Nat) : Int)] 3)).heap.size := by rw [HU.out, World.size_alloc]; exact hloc9
                      have ho9 := HGG.out.gp.out9 hc' (below_alloc (Below.refl _ _) _) hg9'
                      obtain ⟨a9, c9, hu9⟩ := ownsRow_shape hown9
                      subst hu9
                      have gp10 := HGG.out.gp.add hc' (below_alloc (Below.refl _ _) _) (by simp) hown9 hg9' hloc9'
                      have hgo : w3.heap.size + 1 ≤ go := (HGG.out.gp.outer.lt go rfl).1
                      have co9 : w9.cell? ⟨go, c', none⟩ = some (us' c') := by rw [ho9.cellAt c' (by omega)]; simp [hc']
                      have fo9 := ho9.frozenAt c'
                      have keep10 : ∀ b, b < w3.heap.size + 1 → (w9.setCell ⟨go, c', none⟩ (.slice a9 ((gl g' c').length + 1) c9)).heap[b]? = wc.heap[b]? := fun b hb =>
                        (heap_setCell_other w9 ⟨go, c', none⟩ b _ (by simp; omega)).trans ((hg9'.block b (by simp; omega) (fun e => by have := ((HGG.out.gp.inner c' hc').lt b e.symm).1; omega)).trans (Below.heap_alloc _ _ _ (by omega)))
                      have size10 : wc.heap.size ≤ w9.heap.size := by have := hg9'.size; simp at this; omega
                      have hT9 : Below w.heap.size w (w9.setCell ⟨go, c', none⟩ (.slice a9 ((gl g' c').length + 1) c9)) :=
                        ((below_alloc HGG.out.bel _).grown hg9' (by have := HGG.out.bel.size; simp; omega) (fun q hq => by have := ((HGG.out.gp.inner c' hc').lt q hq).1; omega)).setCell (by simp; omega) _
                      have hfin : Gr w (w9.setCell ⟨go, c', none⟩ (.slice a9 ((gl g' c').length + 1) c9)) (w.heap.size + 1) w.heap.size w1.heap.size w3.heap.size n (j + 1) ρ (.slice (some ⟨go, 0, none⟩) g'.length cv') (addTo g' c' t) (upd us' c' (.slice a9 ((gl g' c').length + 1) c9)) D' p' := by
                        refine ⟨gp10, ownsMap_same HGG.out.own (keep10 _ (by omega)), HGG.out.mp.add c' t, HGG.out.uf, (keep10 _ (by omega)).trans HGG.out.bv, (keep10 _ (by omega)).trans HGG.out.bp, (keep10 _ (by omega)).trans HGG.out.br, hT9, by simp; omega, by rw [addTo_length]; exact HGG.out.len, fun x hx => ?_, fun h0 => ?_⟩
                        · rw [addTo_length] at hx
                          by_cases q : x = c'
                          · subst q; rw [gl_addTo_same hc']; simp; exact HLEN.out x hx
                          · rw [gl_addTo_ne q]; exact Nat.le_succ_of_le (HLEN.out x hx)
                        · have := congrArg List.length h0; rw [addTo_length] at this; simp at this; subst this; simp at hc'
                      have HFIN := hfin
                      clear hfin gp10 hT9 keep10 ho9 hown9 hg9 hg9' hloc9 hloc9' hin co
                      have HFI : Hid (Gr w (w9.setCell ⟨go, c', none⟩ (.slice a9 ((gl g' c').length + 1) c9)) (w.heap.size + 1) w.heap.size w1.heap.size w3.heap.size n (j + 1) ρ (.slice (some ⟨go, 0, none⟩) g'.length cv') (addTo g' c' t) (upd us' c' (.slice a9 ((gl g' c').length + 1) c9)) D' p') := HFIN
                      have eG : addTo g' c' t = group ρ lo (j + 1) := by rw [HADD.out]; show _ = put (ρ (lo + j)) (lo + j) (group ρ lo j); rw [← HT4.out, ← HG4.out]
                      have HEG : Hid (addTo g' c' t = group ρ lo (j + 1)) := eG
                      clear HFIN eG
                      go_wp2
                      go_roundw
                      case rel =>
                        have e1 := HEG.out
                        have e2 : g'.length = (group ρ lo (j + 1)).length := by rw [← e1, addTo_length]
                        refine ⟨j + 1, upd us' c' (.slice a9 ((gl g' c').length + 1) c9), D', p', some ⟨go, 0, none⟩, cv', by have := HT4.out; omega, by have := HT4.out; rw [show ((lo + (j + 1) : Nat) : Int) = (t : Int) + 1 by omega], by rw [← e2], ?_⟩
                        rw [← e2, ← e1]
                        exact HFI.out
                      case measure => simp [intOf]; omega
                  · go_wp2
                    go_ret
                    have hjn : j = n - lo := by have := HT4.out; omega
                    subst hjn
                    have e : g.map (·.2) = comps rS rI wS wI lo n := by rw [HG4.out, HRHO.out]; rfl
                    refine ⟨av, cv, ?_, ?_, hG4.bel⟩
                    · rw [← e]; simp
                    · rw [← e]; exact hG4.gp.lists (fun h0 => by have := hG4.emp h0; simp at this; exact ⟨this.2.2, this.1⟩)
end Go.Proofs.Qxb6602948a

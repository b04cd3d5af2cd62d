import Derived.Test.Qxb6602948aSrt
import Derived.Test.Qxb6602948aComp
namespace Go.Proofs.Qxb6602948a
open Go.RowKit Go.Kx Go.Uf Go.Maps
set_option linter.unusedVariables false

abbrev bls (f : Nat → Bool) : Nat → Value := fun j => .bool (f j)

/-- the search's memory: comp, seen, members -/
structure Bf (w : World) (Bc Bs base n items : Nat) (cp : Nat → Int) (sn : Nat → Bool) (v : Value) (ms : List Nat) : Prop where
  c : Blk w Bc (rowOf (ints .i64 cp) n) 3
  s : Blk w Bs (rowOf (bls sn) items) 4
  m : w.ownsRow base 3 1 v ms.length (ms.map natv)
  cs : Bc < Bs
  sb : Bs < base

/-- what has turned in between -/
structure Sp (Bc Bs : Nat) (w w' : World) (v v' : Value) : Prop where
  bel : Below Bc w w'
  keep : ∀ b, Bs < b → b < w.heap.size → v.ownBlock ≠ some b → w'.heap[b]? = w.heap[b]?
  loc : v'.ownBlock = v.ownBlock ∨ ∀ b, v'.ownBlock = some b → w.heap.size ≤ b

theorem Sp.refl (Bc Bs : Nat) (w : World) (v : Value) : Sp Bc Bs w w v v := ⟨Below.refl _ _, fun _ _ _ _ => rfl, .inl rfl⟩
theorem Sp.trans {Bc Bs : Nat} {w w' w'' : World} {v v' v'' : Value} (h : Sp Bc Bs w w' v v') (k : Sp Bc Bs w' w'' v' v'') : Sp Bc Bs w w'' v v'' := by
  have hs := h.bel.size
  refine ⟨h.bel.trans k.bel, fun b hb hlt hne => ?_, ?_⟩
  · refine (k.keep b hb (by omega) ?_).trans (h.keep b hb hlt hne)
    rcases h.loc with e | e
    · rw [e]; exact hne
    · intro e2; have := e b e2; omega
  · rcases k.loc with e | e
    · rw [e]; exact h.loc
    · exact .inr fun b hb => Nat.le_trans hs (e b hb)
theorem Sp.set {Bc Bs : Nat} (w : World) (v : Value) (p : Addr) (u : Value) (h1 : Bc ≤ p.block) (h2 : p.block ≤ Bs) : Sp Bc Bs w (w.setCell p u) v v :=
  ⟨(Below.refl _ _).setCell h1 _, fun b hb _ _ => heap_setCell_other w p b u (by omega), .inl rfl⟩
theorem Sp.drew {Bc Bs : Nat} {w w' : World} {v v' : Value} (h : Sp Bc Bs w w' v v') : Sp Bc Bs w w'.drew v v' := ⟨h.bel.drew, h.keep, h.loc⟩

theorem Bf.mark {w : World} {Bc Bs base n items : Nat} {cp : Nat → Int} {sn : Nat → Bool} {v : Value} {ms : List Nat} (h : Bf w Bc Bs base n items cp sn v ms) (u : Nat) (c : Int) :
    Bf (w.setCell ⟨Bc, u, none⟩ (.int .i64 c)) Bc Bs base n items (upd cp u c) sn v ms := by
  have := h.cs
  have := h.sb
  exact ⟨(h.c.set u _).congr (by rw [rowOf_set]; apply rowOf_congr; intro j _; by_cases e : j = u <;> simp [upd, e]), h.s.other _ _ (by simp; omega), ownsRow_same h.m fun b hb hB => heap_setCell_other w _ b _ (by simp; omega), h.cs, h.sb⟩
theorem Bf.see {w : World} {Bc Bs base n items : Nat} {cp : Nat → Int} {sn : Nat → Bool} {v : Value} {ms : List Nat} (h : Bf w Bc Bs base n items cp sn v ms) (x : Nat) :
    Bf (w.setCell ⟨Bs, x, none⟩ (.bool true)) Bc Bs base n items cp (upd sn x true) v ms := by
  have := h.cs
  have := h.sb
  exact ⟨h.c.other _ _ (by simp; omega), (h.s.set x _).congr (by rw [rowOf_set]; apply rowOf_congr; intro j _; by_cases e : j = x <;> simp [upd, e]), ownsRow_same h.m fun b hb hB => heap_setCell_other w _ b _ (by simp; omega), h.cs, h.sb⟩
theorem Bf.push {w w' : World} {Bc Bs base n items : Nat} {cp : Nat → Int} {sn : Nat → Bool} {v v' : Value} {ms : List Nat} {o : Obj} {u : Nat} (h : Bf w Bc Bs base n items cp sn v ms)
    (ho : w'.ownsRow base 3 1 v' (ms.length + 1) (ms.map natv ++ [natv u])) (hg : (w.alloc o).grownBy w' v.ownBlock) : Bf w' Bc Bs base n items cp sn v' (ms ++ [u]) := by
  have hcs := h.cs
  have hsb := h.sb
  have l1 := h.c.lt
  have l2 := h.s.lt
  refine ⟨?_, ?_, by simpa using ho, h.cs, h.sb⟩
  · exact (hg.block _ (by simp; omega) (fun e => by have := (h.m.lt Bc e.symm).1; omega)).trans (h.c.alloc o)
  · exact (hg.block _ (by simp; omega) (fun e => by have := (h.m.lt Bs e.symm).1; omega)).trans (h.s.alloc o)
theorem Sp.push {w w' : World} {Bc Bs base n items : Nat} {cp : Nat → Int} {sn : Nat → Bool} {v v' : Value} {ms : List Nat} {o : Obj} (h : Bf w Bc Bs base n items cp sn v ms)
    (hg : (w.alloc o).grownBy w' v.ownBlock) (hloc : v'.ownBlock = v.ownBlock ∨ v'.ownBlock = some (w.alloc o).heap.size) : Sp Bc Bs w w' v v' := by
  have hcs := h.cs
  have hsb := h.sb
  have l1 := h.c.lt
  refine ⟨((Below.refl _ _).alloc (by omega) o).grown hg (by simp; omega) (fun q hq => by have := (h.m.lt q hq).1; omega), fun b hb hlt hne => (hg.block b (by simp; omega) (fun e => hne e.symm)).trans (Below.heap_alloc _ _ _ hlt), ?_⟩
  rcases hloc with e | e
  · exact .inl e
  · exact .inr fun b hb => by rw [e] at hb; simp at hb; omega

/-! ### the spreading, plainly -/
def sp1 (c : Int) (u : Nat) (s : (Nat → Int) × List Nat) : (Nat → Int) × List Nat := if s.1 u < 0 then (upd s.1 u c, s.2 ++ [u]) else s
def spN (f : Nat → Nat) (c : Int) : Nat → (Nat → Int) × List Nat → (Nat → Int) × List Nat
  | 0, s => s
  | k + 1, s => sp1 c (f k) (spN f c k s)
theorem spN_len (f : Nat → Nat) (c : Int) (s : (Nat → Int) × List Nat) : ∀ k, (spN f c k s).2.length ≤ s.2.length + k
  | 0 => Nat.le_refl _
  | k + 1 => by
    have ih := spN_len f c s k
    show (sp1 c (f k) (spN f c k s)).2.length ≤ _
    unfold sp1
    by_cases h : (spN f c k s).1 (f k) < 0
    · rw [if_pos h]; simp; omega
    · rw [if_neg h]; omega

theorem rw_belowB {w w' : World} {a : Option Addr} {n c B : Nat} {f : Nat → Value} (h : Rw w a n c f) (hB : ∀ x, a = some x → x.block < B) (hb : Below B w w') : Rw w' a n c f :=
  ⟨h.1, fun x hx j hj => (hb.cell (p := x.add j) (by have := hB x hx; unfold Addr.add; split <;> simp_all)).trans (h.2 x hx j hj)⟩

def SprPost (Bc Bs base n items : Nat) (cp : Nat → Int) (sn : Nat → Bool) (v : Value) (ms : List Nat) (w : World) (e : Ending) (w' : World) (w0 : World) (v0 : Value) : Prop :=
  e = .returned v ∧ Bf w' Bc Bs base n items cp sn v ms ∧ Sp Bc Bs w0 w' v0 v

def SPost (Bc Bs base n items : Nat) (cp : Nat → Int) (sn : Nat → Bool) (ms : List Nat) (v0 : Value) (w0 : World) (e : Ending) (w' : World) : Prop :=
  ∃ v, e = .returned v ∧ Bf w' Bc Bs base n items cp sn v ms ∧ Sp Bc Bs w0 w' v0 v

/-- an item that has been met -/
theorem spread_old (x U : Nat) (c : Int) (Bc Bs base n items : Nat) (cp : Nat → Int) (sn : Nat → Bool) (a : Option Addr) (cm : Nat) (ms : List Nat) (w : World)
    (hx : x < items) (hit : items ≤ 65536) (hsx : sn x = true) (h : Bf w Bc Bs base n items cp sn (.slice a ms.length cm) ms) :
    Calls Try.prog 31 #[.int .i64 (x : Nat), .int .i64 c, .slice (some ⟨U, 0, none⟩) items items, .slice (some ⟨Bs, 0, none⟩) items items, .slice (some ⟨Bc, 0, none⟩) n n, .slice a ms.length cm] w fun e w' => SPost Bc Bs base n items cp sn ms (.slice a ms.length cm) w e w' := by
  have c1 : w.cell? ⟨Bs, x, none⟩ = some (.bool true) := by rw [h.s.cell, rowOf_get _ hx]; show some (Value.bool (sn x)) = _; rw [hsx]
  have k1 : (x : Int) < (items : Int) := by omega
  have HB : Hid (Bf w Bc Bs base n items cp sn (.slice a ms.length cm) ms) := h
  clear h hsx
  go_enter Try.func31, Try.ntmps31
  go_wp2
  go_ret
  exact ⟨_, rfl, HB.out, Sp.refl _ _ _ _⟩

set_option maxRecDepth 100000 in
set_option maxHeartbeats 1000000 in
theorem spread_new (x U : Nat) (c : Int) (Bc Bs base n items : Nat) (cp : Nat → Int) (sn : Nat → Bool) (a : Option Addr) (cm : Nat) (ms : List Nat) (au : Option Addr) (nu cu : Nat) (f : Nat → Nat) (w : World)
    (hx : x < items) (hit : items ≤ 65536) (hsx : sn x = false) (h : Bf w Bc Bs base n items cp sn (.slice a ms.length cm) ms) (hU : U < Bc) (hau : ∀ y, au = some y → y.block < Bc) (hcu : w.cell? ⟨U, x, none⟩ = some (.slice au nu cu)) (hru : Rw w au nu cu (nats f)) (hfn : ∀ i, i < nu → f i < n) (hlen : ms.length + nu ≤ 1048576) (hn : n ≤ 4096) (hbw : base ≤ w.heap.size) :
    Calls Try.prog 31 #[.int .i64 (x : Nat), .int .i64 c, .slice (some ⟨U, 0, none⟩) items items, .slice (some ⟨Bs, 0, none⟩) items items, .slice (some ⟨Bc, 0, none⟩) n n, .slice a ms.length cm] w fun e w' => SPost Bc Bs base n items (spN f c nu (cp, ms)).1 (upd sn x true) (spN f c nu (cp, ms)).2 (.slice a ms.length cm) w e w' := by
  have c1 : w.cell? ⟨Bs, x, none⟩ = some (.bool false) := by rw [h.s.cell, rowOf_get _ hx]; show some (Value.bool (sn x)) = _; rw [hsx]
  have k1 : (x : Int) < (items : Int) := by omega
  have f1 := h.s.free x
  have hcs := h.cs
  have hne : U ≠ Bs := by omega
  have c2 : (w.setCell ⟨Bs, x, none⟩ (.bool true)).cell? ⟨U, x, none⟩ = some (.slice au nu cu) := (World.cell?_of_block (heap_setCell_other w ⟨Bs, x, none⟩ U (.bool true) hne)).trans hcu
  obtain ⟨i3, hi3, hx0, hx1, hx2⟩ := info_parts info3
  have HB : Hid (Bf w Bc Bs base n items cp sn (.slice a ms.length cm) ms) := h
  have HU : Hid (Rw w au nu cu (nats f)) := hru
  have HA : Hid (∀ y, au = some y → y.block < Bc) := hau
  have HF : Hid (∀ i, i < nu → f i < n) := hfn
  clear h hsx hru hau hfn
  go_enter Try.func31, Try.ntmps31
  go_wp2
  clear c1 c2 f1
  go_loopw [5, 28] (fun v s wr => ∃ (k : Nat) (a' : Option Addr) (c' : Nat), k ≤ nu ∧ s = .int .i64 k ∧ v = .slice a' (spN f c k (cp, ms)).2.length c' ∧ Bf wr Bc Bs base n items (spN f c k (cp, ms)).1 (upd sn x true) (.slice a' (spN f c k (cp, ms)).2.length c') (spN f c k (cp, ms)).2 ∧ Sp Bc Bs w wr (.slice a ms.length cm) (.slice a' (spN f c k (cp, ms)).2.length c')) (fun _ s _ => nu - (intOf s).toNat)
  case atStart => exact ⟨0, a, cm, Nat.zero_le _, rfl, rfl, HB.out.see x, Sp.set w _ _ _ (by simp; omega) (by simp)⟩
  case round =>
    obtain ⟨k, a', c', hk, rfl, rfl, hb, hsp⟩ := hrel
    obtain ⟨st, hst⟩ : ∃ st, st = spN f c k (cp, ms) := ⟨_, rfl⟩
    have hl := spN_len f c (cp, ms) k
    rw [← hst] at hb hsp hl ⊢
    have HST : Hid (st = spN f c k (cp, ms)) := hst
    obtain ⟨cq, mq⟩ := st
    simp only at hb hsp hl ⊢
    have HBF : Hid (Bf wr Bc Bs base n items cq (upd sn x true) (.slice a' mq.length c') mq) := hb
    have HSP : Hid (Sp Bc Bs w wr (.slice a ms.length cm) (.slice a' mq.length c')) := hsp
    clear hst hb hsp
    by_cases hlt : k < nu
    · have kk : (k : Int) < (nu : Int) := by omega
      obtain ⟨bu, ou, rfl, _, d⟩ := (rw_belowB HU.out HA.out HSP.out.bel).plain (by omega)
      have d1 : wr.cell? ⟨bu, ou + k, none⟩ = some (.int .i64 ((f k : Nat) : Int)) := d k hlt
      have hfk := HF.out k hlt
      have kf : ((f k : Nat) : Int) < (n : Int) := by omega
      have d2 : wr.cell? ⟨Bc, f k, none⟩ = some (.int .i64 (cq (f k))) := by rw [HBF.out.c.cell, rowOf_get _ hfk]
      have d3 := HBF.out.c.free (f k)
      have e1 : spN f c (k + 1) (cp, ms) = sp1 c (f k) (cq, mq) := by show sp1 c (f k) (spN f c k (cp, ms)) = _; rw [HST.out]
      have E1 : Hid (spN f c (k + 1) (cp, ms) = sp1 c (f k) (cq, mq)) := e1
      clear d e1
      by_cases hneg : cq (f k) < 0
      · have E2 : Hid (sp1 c (f k) (cq, mq) = (upd cq (f k) c, mq ++ [f k])) := by show _ = _; unfold sp1; simp only; rw [if_pos hneg]
        have BF2 : Hid (Bf (wr.setCell ⟨Bc, f k, none⟩ (.int .i64 c)) Bc Bs base n items (upd cq (f k) c) (upd sn x true) (.slice a' mq.length c') mq) := HBF.out.mark (f k) c
        have SP2 : Hid (Sp Bc Bs w (wr.setCell ⟨Bc, f k, none⟩ (.int .i64 c)) (.slice a ms.length cm) (.slice a' mq.length c')) := HSP.out.trans (Sp.set wr _ _ _ (by simp) (by simp; omega))
        have hbs : base ≤ wr.heap.size := Nat.le_trans hbw HSP.out.bel.size
        go_wp2_with (at_builtin; refine wpList_append_own_at _ rfl (.tmp 41) (.tmp 43) 22 rfl base 3 i3 (.int .i64 0) 1 8 Try.underlying22 hi3 hx0 hx1 hx2 rfl (by decide) _ _ _ rfl (BF2.out.m.alloc _) ⟨wr.heap.size, 0, none⟩ 1 1 [.int .i64 ((f k : Nat) : Int)] rfl rfl ?d1 ?d2 ?d3 ?d4 ?d5 ?_)
        case d1 => have h9 := cell_one_new (wr.setCell ⟨Bc, f k, none⟩ (.int .i64 c)) (.int .i64 ((f k : Nat) : Int)) 3; rw [World.size_setCell] at h9; exact h9
        case d2 => intro u hu; simp at hu; subst hu; rfl
        case d3 => unfold maxLen; omega
        case d4 => omega
        case d5 => simp; omega
        intro u9 w9 hown9 hg9 _ hloc9
        have BF3 := BF2.out.push hown9 hg9
        have SP3 := SP2.out.trans (Sp.push BF2.out hg9 (by rw [World.size_alloc]; simpa using hloc9))
        obtain ⟨a9, c9, hu9⟩ := ownsRow_shape hown9
        subst hu9
        clear hown9 hg9 hloc9
        go_wp2
        go_roundw
        case rel =>
          have e := E1.out.trans E2.out
          refine ⟨k + 1, a9, c9, by omega, by go_num, ?_, ?_, ?_⟩
          · rw [e]; simp
          · rw [e]; simpa using BF3
          · rw [e]; simpa using SP3
        case measure => simp [intOf]; omega
      · have E2 : Hid (sp1 c (f k) (cq, mq) = (cq, mq)) := by show _ = _; unfold sp1; simp only; rw [if_neg hneg]
        go_wp2
        go_roundw
        case rel =>
          have e := E1.out.trans E2.out
          refine ⟨k + 1, a', c', by omega, by go_num, ?_, ?_, ?_⟩
          · rw [e]
          · rw [e]; exact HBF.out
          · rw [e]; exact HSP.out
        case measure => simp [intOf]; omega
    · obtain rfl : nu = k := by omega
      have kk : ¬ (nu : Int) < (nu : Int) := by omega
      go_wp2
      go_ret
      refine ⟨_, rfl, ?_, ?_⟩
      · rw [← HST.out]; exact HBF.out
      · exact HSP.out
end Go.Proofs.Qxb6602948a

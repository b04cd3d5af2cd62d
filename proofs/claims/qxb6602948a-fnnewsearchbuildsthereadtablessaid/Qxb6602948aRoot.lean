import Derived.Test.Qxb6602948aBase
import Derived.Test.Qxb6602948aUf
namespace Go.Proofs.Qxb6602948a
open Go.RowKit Go.Kx Go.Uf
set_option linter.unusedVariables false

/-- w' is w but for what block g holds -/
structure Turned (g : Nat) (w w' : World) : Prop where
  os : w'.os = w.os
  tape : w'.tape = w.tape
  output : w'.output = w.output
  size : w'.heap.size = w.heap.size
  block : ∀ k, k ≠ g → w'.heap[k]? = w.heap[k]?

section
variable {g : Nat} {w w' w'' : World}
theorem Turned.refl (g : Nat) (w : World) : Turned g w w := ⟨rfl, rfl, rfl, rfl, fun _ _ => rfl⟩
theorem Turned.trans (h : Turned g w w') (k : Turned g w' w'') : Turned g w w'' := ⟨k.os.trans h.os, k.tape.trans h.tape, k.output.trans h.output, k.size.trans h.size, fun i hi => (k.block i hi).trans (h.block i hi)⟩
theorem Turned.set (h : Turned g w w') (i : Nat) (v : Value) : Turned g w (w'.setCell ⟨g, i, none⟩ v) :=
  h.trans ⟨rfl, rfl, rfl, by simp, fun k hk => heap_setCell_other w' ⟨g, i, none⟩ k v hk⟩
theorem Turned.drew (h : Turned g w w') : Turned g w w'.drew := ⟨h.os, h.tape, h.output, h.size, h.block⟩
theorem Turned.drewN (h : Turned g w w') (n : Nat) : Turned g w (w'.drewN n) := ⟨h.os, h.tape, h.output, h.size, h.block⟩
theorem Turned.keep (h : Turned g w w') {b : Nat} {arr : Array Value} {t : TypeId} (hb : Blk w b arr t) (hne : b ≠ g) : Blk w' b arr t := (h.block b hne).trans hb
theorem Turned.below (h : Turned g w w') {B : Nat} (hB : B ≤ g) : Below B w w' := ⟨h.os, h.tape, h.output, Nat.le_of_eq h.size.symm, fun k hk => h.block k (by omega)⟩
end

/-- a row of natural numbers -/
abbrev nats (p : Nat → Nat) : Nat → Value := fun j => .int .i64 (p j : Nat)

def RootPost (n Bp : Nat) (ρ : Nat → Nat) (t : Nat) (w : World) (e : Ending) (w' : World) : Prop :=
  ∃ p', e = .returned (.int .i64 (ρ t : Nat)) ∧ Ufo p' ρ n ∧ Blk w' Bp (rowOf (nats p') n) 3 ∧ Turned Bp w w'

theorem nats_set (p : Nat → Nat) (n i v : Nat) : (rowOf (nats p) n).setIfInBounds i (.int .i64 (v : Nat)) = rowOf (nats (upd p i v)) n := by
  rw [rowOf_set]
  apply rowOf_congr
  intro j _
  by_cases h : j = i
  · subst h; simp [upd]
  · simp [upd, h]

set_option maxHeartbeats 400000 in
theorem root_any (t n Bv Bp : Nat) (p ρ : Nat → Nat) (w : World) (hv : Blk w Bv #[.slice (some ⟨Bp, 0, none⟩) n n] 22) (hp : Blk w Bp (rowOf (nats p) n) 3) (hne : Bv ≠ Bp) (h : Ufo p ρ n) (ht : t < n) (hn : n ≤ 4096) :
    Calls Try.prog 38 #[.int .i64 (t : Nat), .pointer (some ⟨Bv, 0, none⟩)] w fun e w' => RootPost n Bp ρ t w e w' := by
  obtain ⟨d, hd⟩ := h
  have hv0 := hv.cell 0
  go_enter Try.func38, Try.ntmps38
  go_wp2
  go_loop [4] (fun s => ∃ r : Nat, r < n ∧ s = .int .i64 r ∧ ρ r = ρ t) (fun s => d (intOf s).toNat)
  case atStart => exact ⟨t, ht, rfl, rfl⟩
  case round =>
    obtain ⟨r, hr, rfl, hrt⟩ := hrel
    have HR : Hid (ρ r = ρ t) := hrt
    clear hrt
    have c1 : w.cell? ⟨Bp, r, none⟩ = some (.int .i64 (p r : Nat)) := by rw [hp.cell, rowOf_get _ hr]
    have k1 : (r : Int) < (n : Int) := by omega
    by_cases hpr : p r = r
    · have dn : (((p r : Nat) : Int) != (r : Int)) = false := by rw [hpr]; simp
      have hroot : r = ρ t := by rw [← HR.out]; exact (hd.fix r hr hpr).symm
      subst hroot
      clear HR hpr
      have HV : Hid (Blk w Bv #[.slice (some ⟨Bp, 0, none⟩) n n] 22) := hv
      have hrt := hd.rlt t ht
      go_wp2
      clear hv0 c1 dn
      go_loopw [0] (fun s wr => ∃ (u : Nat) (q : Nat → Nat), u < n ∧ s = .int .i64 u ∧ ρ u = ρ t ∧ Ufd q ρ d n ∧ Blk wr Bp (rowOf (nats q) n) 3 ∧ Turned Bp w wr) (fun s _ => d (intOf s).toNat)
      case atStart => exact ⟨t, p, ht, rfl, rfl, hd, hp, Turned.refl _ _⟩
      case round =>
        obtain ⟨u, q, hu, rfl, hut, hq, hB, hT⟩ := hrel
        have HU : Hid (ρ u = ρ t) := hut
        clear hut
        have c0 := (hT.keep HV.out hne).cell 0
        have c1 : wr.cell? ⟨Bp, u, none⟩ = some (.int .i64 (q u : Nat)) := by rw [hB.cell, rowOf_get _ hu]
        have f1 := hB.free u
        have k1 : (u : Int) < (n : Int) := by omega
        by_cases hqu : q u = ρ t
        · have dn : (((q u : Nat) : Int) != ((ρ t : Nat) : Int)) = false := by rw [hqu]; simp
          clear hqu
          go_wp2
          go_ret
          exact ⟨q, rfl, ⟨d, hq⟩, hB, hT⟩
        · have dn : (((q u : Nat) : Int) != ((ρ t : Nat) : Int)) = true := by rw [bne_iff_ne]; omega
          have hne2 : q u ≠ ρ u := by rw [HU.out]; exact hqu
          have hpr := hq.press hu hne2
          rw [HU.out] at hpr
          have hw := hq.wf u hu (fun e => hne2 (by rw [hq.fix u hu e, e]))
          have hlt := hq.lt u hu
          have hup := hq.up u hu
          have HUP : Hid (ρ (q u) = ρ u) := hup
          have HPR : Hid (Ufd (upd q u (ρ t)) ρ d n) := hpr
          clear hqu hne2 hpr hup
          go_wp2
          go_region
          go_wp2
          go_roundw
          case rel => exact ⟨q u, upd q u (ρ t), hlt, rfl, HUP.out.trans HU.out, HPR.out, (hB.set u (.int .i64 (ρ t : Nat))).congr (nats_set q n u (ρ t)), (hT.set u _).drew⟩
          case measure => simp [intOf]; omega
    · have dn : (((p r : Nat) : Int) != (r : Int)) = true := by rw [bne_iff_ne]; omega
      have hw := hd.wf r hr hpr
      have hlt := hd.lt r hr
      have hup := hd.up r hr
      clear hpr
      have HU : Hid (ρ (p r) = ρ r) := hup
      clear hup
      go_wp2
      go_round
      case rel => exact ⟨p r, hlt, rfl, HU.out.trans HR.out⟩
      case measure => simp [intOf]; omega
end Go.Proofs.Qxb6602948a

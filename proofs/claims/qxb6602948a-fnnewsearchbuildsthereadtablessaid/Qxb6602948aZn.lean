import Derived.Test.Qxb6602948aNs
namespace Go.Proofs.Qxb6602948a
open Go.RowKit Go.Kx Go.Uf Go.Maps
set_option linter.unusedVariables false

theorem NsPost.ret {H n items : Nat} {rS rI rw wS wI : Nat → Int} {w w' : World} {e : Ending} (h : NsPost H n items rS rI rw wS wI w e w') : ∃ S, e = .returned (.pointer (some ⟨S, 0, none⟩)) := by
  obtain ⟨S, _, _, _, _, _, _, _, _, _, _, _, _, _, _, _, _, _, he, _⟩ := h
  exact ⟨S, he⟩

set_option maxRecDepth 100000 in
theorem zznew_any (H : Nat) (a0 : Option Addr) (n c0 items : Nat) (imp : Bool) (a3 : Option Addr) (c3 : Nat) (Bq M : Nat) (a6 : Option Addr) (c6 : Nat) (a7 : Option Addr) (N c7 : Nat) (rS rI rw wS wI : Nat → Int) (w : World)
    (hb : Hb w H a0 n c0 items imp a3 c3 Bq M a6 c6 a7 N c7 rS rI rw wS wI) (hf : Fine n items M N rS rI wS wI) (hc7 : N ≤ c7 ∧ c7 ≤ 1048576) (hwf : ∀ j, wfp (rI j, rw j)) :
    Calls Try.prog 24 #[.pointer (some ⟨H, 0, none⟩)] w fun e w' => NsPost H n items rS rI rw wS wI w e w' := by
  have HB : Hid (Hb w H a0 n c0 items imp a3 c3 Bq M a6 c6 a7 N c7 rS rI rw wS wI) := hb
  have HF : Hid (Fine n items M N rS rI wS wI) := hf
  clear hb hf
  go_enter Try.func24, Try.ntmps24
  go_wp2_with fail
  refine (ns_any H a0 n c0 items imp a3 c3 Bq M a6 c6 a7 N c7 rS rI rw wS wI _ HB.out HF.out hc7 hwf).mono ?_
  rintro e w' hN
  obtain ⟨S, hr⟩ := hN.ret
  subst hr
  go_wp2
  go_ret
  exact hN
end Go.Proofs.Qxb6602948a

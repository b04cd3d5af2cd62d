import Derived.Test.Qxb6602948aComp
import Derived.Test.Qxb6602948aRen
import Derived.Test.Qxb6602948aHistOk
import Derived.Test.Qxb6602948aBytes
namespace Go.Proofs.Qxb6602948a
open Go.RowKit Go.Kx Go.Uf
set_option linter.unusedVariables false

/-- a history, behind its pointer -/
structure Hb (w : World) (H : Nat) (a0 : Option Addr) (n c0 items : Nat) (imp : Bool) (a3 : Option Addr) (c3 : Nat) (Bq M : Nat) (a6 : Option Addr) (c6 : Nat) (a7 : Option Addr) (N c7 : Nat) (rS rI rw wS wI : Nat → Int) : Prop where
  h : Blk w H (hcells a0 n c0 items imp a3 (n + 1) c3 Bq M a6 (n + 1) c6 a7 N c7) 63
  rs : Rw w a3 (n + 1) c3 (ints .i64 rS)
  ri : Rw2 w (some ⟨Bq, 0, none⟩) M M (ints .i32 rI) (ints .i32 rw)
  ws : Rw w a6 (n + 1) c6 (ints .i64 wS)
  wi : Rw w a7 N c7 (ints .i32 wI)

theorem zzcomp_any (H lo : Nat) (a0 : Option Addr) (n c0 items : Nat) (imp : Bool) (a3 : Option Addr) (c3 : Nat) (Bq M : Nat) (a6 : Option Addr) (c6 : Nat) (a7 : Option Addr) (N c7 : Nat) (rS rI rw wS wI : Nat → Int) (w : World)
    (hb : Hb w H a0 n c0 items imp a3 c3 Bq M a6 c6 a7 N c7 rS rI rw wS wI) (hf : Fine n items M N rS rI wS wI) (hlo0 : imp = false → lo = 0) (hlo1 : imp = true → lo = 1) (hc7 : N ≤ c7 ∧ c7 ≤ 1048576) :
    Calls Try.prog 19 #[.pointer (some ⟨H, 0, none⟩)] w fun e w' => CompPost rS rI wS wI lo n w e w' := by
  have HB : Hid (Hb w H a0 n c0 items imp a3 c3 Bq M a6 c6 a7 N c7 rS rI rw wS wI) := hb
  have HF : Hid (Fine n items M N rS rI wS wI) := hf
  clear hb hf
  go_enter Try.func19, Try.ntmps19
  go_wp2_with fail
  have AL : Below w.heap.size w (w.alloc (.cells #[.pointer (some ⟨H, 0, none⟩), .slice none 0 0, .slice none 0 0, .slice none 0 0, .slice none 0 0, .slice none 0 0, .slice none 0 0, .slice none 0 0, .slice none 0 0, .slice none 0 0, .slice none 0 0] 67)) := below_alloc (Below.refl _ _) _
  refine (comp_any w.heap.size H lo a0 n c0 items imp a3 c3 Bq M a6 c6 a7 N c7 rS rI rw wS wI _ ⟨by rw [(Blk.new w _ 67).cell]; rfl, HB.out.h.later AL, HB.out.rs.later AL, HB.out.ri.later AL, HB.out.ws.later AL, HB.out.wi.later AL⟩ HF.out hlo0 hlo1 hc7).mono ?_
  rintro e w' ⟨a, c, rfl, hl, hb⟩
  go_wp2
  go_ret
  exact ⟨a, c, rfl, hl, below_next AL hb⟩

end Go.Proofs.Qxb6602948a

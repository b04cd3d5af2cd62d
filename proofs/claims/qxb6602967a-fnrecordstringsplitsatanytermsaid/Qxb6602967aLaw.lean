import Derived.Test.Qxb6602967aLawF
import Derived.Test.Qxb6602967aLawT
namespace Go.Proofs.Qxb6602967a
open Go.RowKit Go.Kx
set_option linter.unusedVariables false

theorem law (all : Int) (ha : Bool) (a0 a1 a2 a3 a4 a5 a6 a7 a8 a9 : Option Addr) (n0 n1 n2 n3 n4 n5 n6 n7 n8 n9 c0 c1 c2 c3 c4 c5 c6 c7 c8 c9 : Nat) (mA mB : Nat → Bool) (qA qB : Nat → Int) (nmA arA tA nmB arB tB : Nat → ByteArray) (w : World)
    (r0 : Rw w a0 n0 c0 (bools mA)) (r1 : Rw w a1 n1 c1 (ints .i64 qA)) (r2 : Rw w a2 n2 c2 (strs nmA)) (r3 : Rw w a3 n3 c3 (strs arA)) (r4 : Rw w a4 n4 c4 (strs tA)) (r5 : Rw w a5 n5 c5 (bools mB)) (r6 : Rw w a6 n6 c6 (ints .i64 qB)) (r7 : Rw w a7 n7 c7 (strs nmB)) (r8 : Rw w a8 n8 c8 (strs arB)) (r9 : Rw w a9 n9 c9 (strs tB)) :
    Calls Try.prog 9 #[.slice a0 n0 c0, .slice a1 n1 c1, .slice a2 n2 c2, .slice a3 n3 c3, .slice a4 n4 c4, .slice a5 n5 c5, .slice a6 n6 c6, .slice a7 n7 c7, .slice a8 n8 c8, .slice a9 n9 c9, .int .i64 all, .bool ha] w fun e w' => e = .returned (.bool true) ∧ Below w.heap.size w w' := by
  cases ha with
  | false => exact lawF all a0 a1 a2 a3 a4 a5 a6 a7 a8 a9 n0 n1 n2 n3 n4 n5 n6 n7 n8 n9 c0 c1 c2 c3 c4 c5 c6 c7 c8 c9 mA mB qA qB nmA arA tA nmB arB tB w r0 r1 r2 r3 r4 r5 r6 r7 r8 r9
  | true => exact lawT all a0 a1 a2 a3 a4 a5 a6 a7 a8 a9 n0 n1 n2 n3 n4 n5 n6 n7 n8 n9 c0 c1 c2 c3 c4 c5 c6 c7 c8 c9 mA mB qA qB nmA arA tA nmB arB tB w r0 r1 r2 r3 r4 r5 r6 r7 r8 r9
end Go.Proofs.Qxb6602967a

import Derived.Test.Qxb6602948aSmall
namespace Go.Proofs.Qxb6602948a
open Go.RowKit Go.Kx
set_option linter.unusedVariables false

set_option maxRecDepth 100000 in
set_option maxHeartbeats 400000 in
theorem bytes22 (T : Int) (i : Bool) (a0 a3 a4 a5 a6 a7 : Option Addr) (n0 n3 n4 n5 n6 n7 c0 c3 c4 c5 c6 c7 : Nat) (w : World) :
    Calls Try.prog 22 #[.slice a0 n0 c0, .int .i64 T, .bool i, .slice a3 n3 c3, .slice a4 n4 c4, .slice a5 n5 c5, .slice a6 n6 c6, .slice a7 n7 c7] w fun e w' => SomeBool w e w' := by
  go_enter Try.func22, Try.ntmps22
  go_wp2
  all_goals go_ret
  all_goals exact ⟨_, rfl, rfl⟩

set_option maxRecDepth 100000 in
set_option maxHeartbeats 400000 in
theorem bytes15 (T : Int) (i : Bool) (a0 a3 a4 a5 a6 a7 : Option Addr) (n0 n3 n4 n5 n6 n7 c0 c3 c4 c5 c6 c7 : Nat) (w : World) :
    Calls Try.prog 15 #[.slice a0 n0 c0, .int .i64 T, .bool i, .slice a3 n3 c3, .slice a4 n4 c4, .slice a5 n5 c5, .slice a6 n6 c6, .slice a7 n7 c7] w fun e w' => SomeBool w e w' := by
  go_enter Try.func15, Try.ntmps15
  go_wp2
  all_goals go_ret
  all_goals exact ⟨_, rfl, rfl⟩

set_option maxRecDepth 100000 in
set_option maxHeartbeats 400000 in
theorem bytes23 (T : Int) (i : Bool) (a0 a3 a4 a5 a6 a7 : Option Addr) (n0 n3 n4 n5 n6 n7 c0 c3 c4 c5 c6 c7 : Nat) (w : World) :
    Calls Try.prog 23 #[.slice a0 n0 c0, .int .i64 T, .bool i, .slice a3 n3 c3, .slice a4 n4 c4, .slice a5 n5 c5, .slice a6 n6 c6, .slice a7 n7 c7] w fun e w' => SomeBool w e w' := by
  go_enter Try.func23, Try.ntmps23
  go_wp2
  all_goals go_ret
  all_goals exact ⟨_, rfl, rfl⟩
end Go.Proofs.Qxb6602948a

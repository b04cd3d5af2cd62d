/-
  No cell of these rows narrows 'for every input' (looked for: loops, veiled, ifaces, maps, wideKeys, modest, calm, conditions, laid).
  DERIVED. THE GIVEN ROWS OF THIS SEAT. 4 by the template 'for every input the law returns true; each argument reads behind the call as it read before'; 0 by the template 'total and deterministic' (their statements: Qxb6602948aTotals.lean).
  GIVEN WITH THE SEED: the statements are not yours to turn. If you find one false, say at which input.
  Laid BY PROGRAM, IN A SANDBOX (cutbox-rows.mjs): the forced cells as the released guide's own fill.sh prints them over the translation d0b3bdc19fc26fd3… (all of the seat's roots in one cut). By AI agents, Wed Nov 11 2026. No macro, syntax, notation, axiom, sorry.
-/
import Derived.Test.Qxb6602948aChecked
import GoSem.Claim
import GoSem.ClaimJoined
import GoSem.ClaimMapViews
import Derived.JoinedTies
import Derived.KernelRfl
namespace Go.Proofs.Qxb6602948a
/- THE CELL 'sum', in the pinned program and in every row, IS THE sha256 OF THE DUMP (.gsa) THAT Qxb6602948aProg.lean LOADS. Nothing in Lean hashes anything: it is a label: what it is worth is what the hold of that sum in a sandbox is worth. -/
noncomputable def Try.pinned : Pinned := { name := "qxb6602948a", sum := "d0b3bdc19fc26fd371029d06aec9044ed31872e1ffec0b2986e76630cb93ba39", checked := Try.checked }
namespace Rows
def none {H : Type} : Left H := { results := [], args := [] }

/-- 'zzlaws_history_b1.FnEdgesOutMovesForwardWithinTheItem': WHATEVER THE INPUT: true; the input reads as it did. -/
def fnEdgesOutMovesForwardWithinTheItemSpec : ChangeSpec := { name := "fnEdgesOutMovesForwardWithinTheItem", fn := fun _ => fun
  | [d1, d2, d3, d4, d5, d6, d7, d8, d9] => { results := [.lit (.bool true)], args := [d1, d2, d3, d4, d5, d6, d7, d8, d9] }
  | _ => none }
def fnEdgesOutMovesForwardWithinTheItemRow : OpenClaim := { program := "qxb6602948a", sum := "d0b3bdc19fc26fd371029d06aec9044ed31872e1ffec0b2986e76630cb93ba39", func := "example.com/verstrata/verstrata/zzlaws_history_b1.FnEdgesOutMovesForwardWithinTheItem", spec := "fnEdgesOutMovesForwardWithinTheItem", plainKeys := false, apart := false }
def FnEdgesOutMovesForwardWithinTheItemSaid : Prop := fnEdgesOutMovesForwardWithinTheItemRow.holds Try.pinned (OpenSpec.ofChange fnEdgesOutMovesForwardWithinTheItemSpec)

/-- ITS FALSE NEIGHBOUR: 'it returns false'. Refute it at one input. -/
def fnEdgesOutMovesForwardWithinTheItemWrong : ChangeSpec := { name := "fnEdgesOutMovesForwardWithinTheItem", fn := fun _ => fun
  | [d1, d2, d3, d4, d5, d6, d7, d8, d9] => { results := [.lit (.bool false)], args := [d1, d2, d3, d4, d5, d6, d7, d8, d9] }
  | _ => none }
def FnEdgesOutMovesForwardWithinTheItemWrongFalsely : Prop := fnEdgesOutMovesForwardWithinTheItemRow.holds Try.pinned (OpenSpec.ofChange fnEdgesOutMovesForwardWithinTheItemWrong)

/-- 'zzlaws_history_b1.FnComponentsAreSharedItemClasses': WHATEVER THE INPUT: true; the input reads as it did. -/
def fnComponentsAreSharedItemClassesSpec : ChangeSpec := { name := "fnComponentsAreSharedItemClasses", fn := fun _ => fun
  | [d1, d2, d3, d4, d5, d6, d7, d8] => { results := [.lit (.bool true)], args := [d1, d2, d3, d4, d5, d6, d7, d8] }
  | _ => none }
def fnComponentsAreSharedItemClassesRow : OpenClaim := { program := "qxb6602948a", sum := "d0b3bdc19fc26fd371029d06aec9044ed31872e1ffec0b2986e76630cb93ba39", func := "example.com/verstrata/verstrata/zzlaws_history_b1.FnComponentsAreSharedItemClasses", spec := "fnComponentsAreSharedItemClasses", unfollowed := true, recurses := true, plainKeys := false, apart := false }
def FnComponentsAreSharedItemClassesSaid : Prop := fnComponentsAreSharedItemClassesRow.holds Try.pinned (OpenSpec.ofChange fnComponentsAreSharedItemClassesSpec)

/-- ITS FALSE NEIGHBOUR: 'it returns false'. Refute it at one input. -/
def fnComponentsAreSharedItemClassesWrong : ChangeSpec := { name := "fnComponentsAreSharedItemClasses", fn := fun _ => fun
  | [d1, d2, d3, d4, d5, d6, d7, d8] => { results := [.lit (.bool false)], args := [d1, d2, d3, d4, d5, d6, d7, d8] }
  | _ => none }
def FnComponentsAreSharedItemClassesWrongFalsely : Prop := fnComponentsAreSharedItemClassesRow.holds Try.pinned (OpenSpec.ofChange fnComponentsAreSharedItemClassesWrong)

/-- 'zzlaws_history_b1.FnComponentsIgnoreItemNamesAndAccessKinds': WHATEVER THE INPUT: true; the input reads as it did. -/
def fnComponentsIgnoreItemNamesAndAccessKindsSpec : ChangeSpec := { name := "fnComponentsIgnoreItemNamesAndAccessKinds", fn := fun _ => fun
  | [d1, d2, d3, d4, d5, d6, d7, d8] => { results := [.lit (.bool true)], args := [d1, d2, d3, d4, d5, d6, d7, d8] }
  | _ => none }
def fnComponentsIgnoreItemNamesAndAccessKindsRow : OpenClaim := { program := "qxb6602948a", sum := "d0b3bdc19fc26fd371029d06aec9044ed31872e1ffec0b2986e76630cb93ba39", func := "example.com/verstrata/verstrata/zzlaws_history_b1.FnComponentsIgnoreItemNamesAndAccessKinds", spec := "fnComponentsIgnoreItemNamesAndAccessKinds", unfollowed := true, recurses := true, plainKeys := false, apart := false }
def FnComponentsIgnoreItemNamesAndAccessKindsSaid : Prop := fnComponentsIgnoreItemNamesAndAccessKindsRow.holds Try.pinned (OpenSpec.ofChange fnComponentsIgnoreItemNamesAndAccessKindsSpec)

/-- ITS FALSE NEIGHBOUR: 'it returns false'. Refute it at one input. -/
def fnComponentsIgnoreItemNamesAndAccessKindsWrong : ChangeSpec := { name := "fnComponentsIgnoreItemNamesAndAccessKinds", fn := fun _ => fun
  | [d1, d2, d3, d4, d5, d6, d7, d8] => { results := [.lit (.bool false)], args := [d1, d2, d3, d4, d5, d6, d7, d8] }
  | _ => none }
def FnComponentsIgnoreItemNamesAndAccessKindsWrongFalsely : Prop := fnComponentsIgnoreItemNamesAndAccessKindsRow.holds Try.pinned (OpenSpec.ofChange fnComponentsIgnoreItemNamesAndAccessKindsWrong)

/-- 'zzlaws_history_b1.FnNewSearchBuildsTheReadTables': WHATEVER THE INPUT: true; the input reads as it did. -/
def fnNewSearchBuildsTheReadTablesSpec : ChangeSpec := { name := "fnNewSearchBuildsTheReadTables", fn := fun _ => fun
  | [d1, d2, d3, d4, d5, d6, d7, d8] => { results := [.lit (.bool true)], args := [d1, d2, d3, d4, d5, d6, d7, d8] }
  | _ => none }
def fnNewSearchBuildsTheReadTablesRow : OpenClaim := { program := "qxb6602948a", sum := "d0b3bdc19fc26fd371029d06aec9044ed31872e1ffec0b2986e76630cb93ba39", func := "example.com/verstrata/verstrata/zzlaws_history_b1.FnNewSearchBuildsTheReadTables", spec := "fnNewSearchBuildsTheReadTables", plainKeys := false, apart := false }
def FnNewSearchBuildsTheReadTablesSaid : Prop := fnNewSearchBuildsTheReadTablesRow.holds Try.pinned (OpenSpec.ofChange fnNewSearchBuildsTheReadTablesSpec)

/-- ITS FALSE NEIGHBOUR: 'it returns false'. Refute it at one input. -/
def fnNewSearchBuildsTheReadTablesWrong : ChangeSpec := { name := "fnNewSearchBuildsTheReadTables", fn := fun _ => fun
  | [d1, d2, d3, d4, d5, d6, d7, d8] => { results := [.lit (.bool false)], args := [d1, d2, d3, d4, d5, d6, d7, d8] }
  | _ => none }
def FnNewSearchBuildsTheReadTablesWrongFalsely : Prop := fnNewSearchBuildsTheReadTablesRow.holds Try.pinned (OpenSpec.ofChange fnNewSearchBuildsTheReadTablesWrong)

end Rows
end Go.Proofs.Qxb6602948a

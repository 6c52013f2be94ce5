/-
  No cell of these rows narrows 'for every input' (looked for: loops, veiled, ifaces, maps, wideKeys, modest, calm, conditions, laid).
  DERIVED. THE GIVEN ROWS OF THIS SEAT. 4 by the template 'for every input the law returns true; each argument reads behind the call as it read before'; 0 by the template 'total and deterministic' (their statements: Qxb6615507aTotals.lean).
  GIVEN WITH THE SEED: the statements are not yours to turn. If you find one false, say at which input.
  Laid BY PROGRAM, IN A SANDBOX (cutbox-rows.mjs): the forced cells as the released guide's own fill.sh prints them over the translation 1840937c6764adfe… (all of the seat's roots in one cut). By AI agents, Wed Nov 11 2026. No macro, syntax, notation, axiom, sorry.
-/
import Derived.Test.Qxb6615507aChecked
import GoSem.Claim
import GoSem.ClaimJoined
import GoSem.ClaimMapViews
import Derived.JoinedTies
import Derived.KernelRfl
namespace Go.Proofs.Qxb6615507a
/- THE CELL 'sum', in the pinned program and in every row, IS THE sha256 OF THE DUMP (.gsa) THAT Qxb6615507aProg.lean LOADS. Nothing in Lean hashes anything: it is a label: what it is worth is what the hold of that sum in a sandbox is worth. -/
noncomputable def Try.pinned : Pinned := { name := "qxb6615507a", sum := "1840937c6764adfe6a1be917f7daedffb8c53754f6ad6183eb7945bb496941e1", checked := Try.checked }
namespace Rows
def none {H : Type} : Left H := { results := [], args := [] }

/-- 'zzlaws_cel_b1.FnOpaqueStringGivesNameBack': WHATEVER THE INPUT: true; the input reads as it did. -/
def fnOpaqueStringGivesNameBackSpec : ChangeSpec := { name := "fnOpaqueStringGivesNameBack", fn := fun _ => fun
  | [d] => { results := [.lit (.bool true)], args := [d] }
  | _ => none }
def fnOpaqueStringGivesNameBackRow : OpenClaim := { program := "qxb6615507a", sum := "1840937c6764adfe6a1be917f7daedffb8c53754f6ad6183eb7945bb496941e1", func := "example.com/windlass/windlass/zzlaws_cel_b1.FnOpaqueStringGivesNameBack", spec := "fnOpaqueStringGivesNameBack", recurses := true, apart := false }
def FnOpaqueStringGivesNameBackSaid : Prop := fnOpaqueStringGivesNameBackRow.holds Try.pinned (OpenSpec.ofChange fnOpaqueStringGivesNameBackSpec)

/-- ITS FALSE NEIGHBOUR: 'it returns false'. Refute it at one input. -/
def fnOpaqueStringGivesNameBackWrong : ChangeSpec := { name := "fnOpaqueStringGivesNameBack", fn := fun _ => fun
  | [d] => { results := [.lit (.bool false)], args := [d] }
  | _ => none }
def FnOpaqueStringGivesNameBackWrongFalsely : Prop := fnOpaqueStringGivesNameBackRow.holds Try.pinned (OpenSpec.ofChange fnOpaqueStringGivesNameBackWrong)

/-- 'zzlaws_cel_b1.FnOpaqueFreshPerCall': WHATEVER THE INPUT: true; the input reads as it did. -/
def fnOpaqueFreshPerCallSpec : ChangeSpec := { name := "fnOpaqueFreshPerCall", fn := fun _ => fun
  | [d1, d2] => { results := [.lit (.bool true)], args := [d1, d2] }
  | _ => none }
def fnOpaqueFreshPerCallRow : OpenClaim := { program := "qxb6615507a", sum := "1840937c6764adfe6a1be917f7daedffb8c53754f6ad6183eb7945bb496941e1", func := "example.com/windlass/windlass/zzlaws_cel_b1.FnOpaqueFreshPerCall", spec := "fnOpaqueFreshPerCall", recurses := true, apart := false }
def FnOpaqueFreshPerCallSaid : Prop := fnOpaqueFreshPerCallRow.holds Try.pinned (OpenSpec.ofChange fnOpaqueFreshPerCallSpec)

/-- ITS FALSE NEIGHBOUR: 'it returns false'. Refute it at one input. -/
def fnOpaqueFreshPerCallWrong : ChangeSpec := { name := "fnOpaqueFreshPerCall", fn := fun _ => fun
  | [d1, d2] => { results := [.lit (.bool false)], args := [d1, d2] }
  | _ => none }
def FnOpaqueFreshPerCallWrongFalsely : Prop := fnOpaqueFreshPerCallRow.holds Try.pinned (OpenSpec.ofChange fnOpaqueFreshPerCallWrong)

/-- 'zzlaws_cel_b1.FnStringTestPrefixChargesFloor': WHATEVER THE INPUT: true; the input reads as it did. -/
def fnStringTestPrefixChargesFloorSpec : ChangeSpec := { name := "fnStringTestPrefixChargesFloor", fn := fun _ => fun
  | [d1, d2, d3, d4] => { results := [.lit (.bool true)], args := [d1, d2, d3, d4] }
  | _ => none }
def fnStringTestPrefixChargesFloorRow : OpenClaim := { program := "qxb6615507a", sum := "1840937c6764adfe6a1be917f7daedffb8c53754f6ad6183eb7945bb496941e1", func := "example.com/windlass/windlass/zzlaws_cel_b1.FnStringTestPrefixChargesFloor", spec := "fnStringTestPrefixChargesFloor", unfollowed := true, recurses := true, apart := false }
def FnStringTestPrefixChargesFloorSaid : Prop := fnStringTestPrefixChargesFloorRow.holds Try.pinned (OpenSpec.ofChange fnStringTestPrefixChargesFloorSpec)

/-- ITS FALSE NEIGHBOUR: 'it returns false'. Refute it at one input. -/
def fnStringTestPrefixChargesFloorWrong : ChangeSpec := { name := "fnStringTestPrefixChargesFloor", fn := fun _ => fun
  | [d1, d2, d3, d4] => { results := [.lit (.bool false)], args := [d1, d2, d3, d4] }
  | _ => none }
def FnStringTestPrefixChargesFloorWrongFalsely : Prop := fnStringTestPrefixChargesFloorRow.holds Try.pinned (OpenSpec.ofChange fnStringTestPrefixChargesFloorWrong)

/-- 'zzlaws_cel_b1.FnStringTestTwoCallsShareOneBudget': WHATEVER THE INPUT: true; the input reads as it did. -/
def fnStringTestTwoCallsShareOneBudgetSpec : ChangeSpec := { name := "fnStringTestTwoCallsShareOneBudget", fn := fun _ => fun
  | [d1, d2, d3, d4, d5, d6] => { results := [.lit (.bool true)], args := [d1, d2, d3, d4, d5, d6] }
  | _ => none }
def fnStringTestTwoCallsShareOneBudgetRow : OpenClaim := { program := "qxb6615507a", sum := "1840937c6764adfe6a1be917f7daedffb8c53754f6ad6183eb7945bb496941e1", func := "example.com/windlass/windlass/zzlaws_cel_b1.FnStringTestTwoCallsShareOneBudget", spec := "fnStringTestTwoCallsShareOneBudget", unfollowed := true, recurses := true, apart := false }
def FnStringTestTwoCallsShareOneBudgetSaid : Prop := fnStringTestTwoCallsShareOneBudgetRow.holds Try.pinned (OpenSpec.ofChange fnStringTestTwoCallsShareOneBudgetSpec)

/-- ITS FALSE NEIGHBOUR: 'it returns false'. Refute it at one input. -/
def fnStringTestTwoCallsShareOneBudgetWrong : ChangeSpec := { name := "fnStringTestTwoCallsShareOneBudget", fn := fun _ => fun
  | [d1, d2, d3, d4, d5, d6] => { results := [.lit (.bool false)], args := [d1, d2, d3, d4, d5, d6] }
  | _ => none }
def FnStringTestTwoCallsShareOneBudgetWrongFalsely : Prop := fnStringTestTwoCallsShareOneBudgetRow.holds Try.pinned (OpenSpec.ofChange fnStringTestTwoCallsShareOneBudgetWrong)

end Rows
end Go.Proofs.Qxb6615507a

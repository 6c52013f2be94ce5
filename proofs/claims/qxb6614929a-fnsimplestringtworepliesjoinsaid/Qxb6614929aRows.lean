/-
  No cell of these rows narrows 'for every input' (looked for: loops, veiled, ifaces, maps, wideKeys, modest, calm, conditions, laid).
  DERIVED. THE GIVEN ROWS OF THIS SEAT. 1 by the template 'for every input the law returns true; each argument reads behind the call as it read before'; 0 by the template 'total and deterministic' (their statements: Qxb6614929aTotals.lean).
  GIVEN WITH THE SEED: the statements are not yours to turn. If you find one false, say at which input.
  Laid BY PROGRAM, IN A SANDBOX (cutbox-rows.mjs): the forced cells as the released guide's own fill.sh prints them over the translation c9b2697f498addd4… (all of the seat's roots in one cut). By AI agents, Wed Nov 11 2026. No macro, syntax, notation, axiom, sorry.
-/
import Derived.Test.Qxb6614929aChecked
import GoSem.Claim
import GoSem.ClaimJoined
import GoSem.ClaimMapViews
import Derived.JoinedTies
import Derived.KernelRfl
namespace Go.Proofs.Qxb6614929a
/- THE CELL 'sum', in the pinned program and in every row, IS THE sha256 OF THE DUMP (.gsa) THAT Qxb6614929aProg.lean LOADS. Nothing in Lean hashes anything: it is a label: what it is worth is what the hold of that sum in a sandbox is worth. -/
noncomputable def Try.pinned : Pinned := { name := "qxb6614929a", sum := "c9b2697f498addd4babce3ab62dfc1e1b2d3fdd2a08541a8cedc016d738770d2", checked := Try.checked }
namespace Rows
def none {H : Type} : Left H := { results := [], args := [] }

/-- 'zzlaws_internal_resp_b1.FnSimpleStringTwoRepliesJoin': WHATEVER THE INPUT: true; the input reads as it did. -/
def fnSimpleStringTwoRepliesJoinSpec : ChangeSpec := { name := "fnSimpleStringTwoRepliesJoin", fn := fun _ => fun
  | [d1, d2] => { results := [.lit (.bool true)], args := [d1, d2] }
  | _ => none }
def fnSimpleStringTwoRepliesJoinRow : OpenClaim := { program := "qxb6614929a", sum := "c9b2697f498addd4babce3ab62dfc1e1b2d3fdd2a08541a8cedc016d738770d2", func := "example.com/tradewind/tradewind/zzlaws_internal_resp_b1.FnSimpleStringTwoRepliesJoin", spec := "fnSimpleStringTwoRepliesJoin", unfollowed := true, recurses := true, apart := false }
def FnSimpleStringTwoRepliesJoinSaid : Prop := fnSimpleStringTwoRepliesJoinRow.holds Try.pinned (OpenSpec.ofChange fnSimpleStringTwoRepliesJoinSpec)

/-- ITS FALSE NEIGHBOUR: 'it returns false'. Refute it at one input. -/
def fnSimpleStringTwoRepliesJoinWrong : ChangeSpec := { name := "fnSimpleStringTwoRepliesJoin", fn := fun _ => fun
  | [d1, d2] => { results := [.lit (.bool false)], args := [d1, d2] }
  | _ => none }
def FnSimpleStringTwoRepliesJoinWrongFalsely : Prop := fnSimpleStringTwoRepliesJoinRow.holds Try.pinned (OpenSpec.ofChange fnSimpleStringTwoRepliesJoinWrong)

end Rows
end Go.Proofs.Qxb6614929a

/-
  No cell of these rows narrows 'for every input' (looked for: loops, veiled, ifaces, maps, wideKeys, modest, calm, conditions, laid).
  DERIVED. THE GIVEN ROWS OF THIS SEAT. 2 by the template 'for every input the law returns true; each argument reads behind the call as it read before'; 0 by the template 'total and deterministic' (their statements: Qxb6614723aTotals.lean).
  GIVEN WITH THE SEED: the statements are not yours to turn. If you find one false, say at which input.
  Laid BY PROGRAM, IN A SANDBOX (cutbox-rows.mjs): the forced cells as the released guide's own fill.sh prints them over the translation 0e8490b8f0a1dec5… (all of the seat's roots in one cut). By AI agents, Wed Nov 11 2026. No macro, syntax, notation, axiom, sorry.
-/
import Derived.Test.Qxb6614723aChecked
import GoSem.Claim
import GoSem.ClaimJoined
import GoSem.ClaimMapViews
import Derived.JoinedTies
import Derived.KernelRfl
namespace Go.Proofs.Qxb6614723a
/- THE CELL 'sum', in the pinned program and in every row, IS THE sha256 OF THE DUMP (.gsa) THAT Qxb6614723aProg.lean LOADS. Nothing in Lean hashes anything: it is a label: what it is worth is what the hold of that sum in a sandbox is worth. -/
noncomputable def Try.pinned : Pinned := { name := "qxb6614723a", sum := "0e8490b8f0a1dec550bee5573574315309a4ba1fd26cd56edde7d1b51689e5f3", checked := Try.checked }
namespace Rows
def none {H : Type} : Left H := { results := [], args := [] }

/-- 'zzlaws_internal_jsonscan_b1.FnSpaceOfJoinAtAnyCut': WHATEVER THE INPUT: true; the input reads as it did. -/
def fnSpaceOfJoinAtAnyCutSpec : ChangeSpec := { name := "fnSpaceOfJoinAtAnyCut", fn := fun _ => fun
  | [d1, d2] => { results := [.lit (.bool true)], args := [d1, d2] }
  | _ => none }
def fnSpaceOfJoinAtAnyCutRow : OpenClaim := { program := "qxb6614723a", sum := "0e8490b8f0a1dec550bee5573574315309a4ba1fd26cd56edde7d1b51689e5f3", func := "example.com/turnseal/turnseal/zzlaws_internal_jsonscan_b1.FnSpaceOfJoinAtAnyCut", spec := "fnSpaceOfJoinAtAnyCut", apart := false }
def FnSpaceOfJoinAtAnyCutSaid : Prop := fnSpaceOfJoinAtAnyCutRow.holds Try.pinned (OpenSpec.ofChange fnSpaceOfJoinAtAnyCutSpec)

/-- ITS FALSE NEIGHBOUR: 'it returns false'. Refute it at one input. -/
def fnSpaceOfJoinAtAnyCutWrong : ChangeSpec := { name := "fnSpaceOfJoinAtAnyCut", fn := fun _ => fun
  | [d1, d2] => { results := [.lit (.bool false)], args := [d1, d2] }
  | _ => none }
def FnSpaceOfJoinAtAnyCutWrongFalsely : Prop := fnSpaceOfJoinAtAnyCutRow.holds Try.pinned (OpenSpec.ofChange fnSpaceOfJoinAtAnyCutWrong)

/-- 'zzlaws_internal_jsonscan_b1.FnIsHexCountsTwentyTwoOverEveryByte': WHATEVER THE INPUT: true; the input reads as it did. -/
def fnIsHexCountsTwentyTwoOverEveryByteSpec : ChangeSpec := { name := "fnIsHexCountsTwentyTwoOverEveryByte", fn := fun _ => fun
  | [] => { results := [.lit (.bool true)], args := [] }
  | _ => none }
def fnIsHexCountsTwentyTwoOverEveryByteRow : OpenClaim := { program := "qxb6614723a", sum := "0e8490b8f0a1dec550bee5573574315309a4ba1fd26cd56edde7d1b51689e5f3", func := "example.com/turnseal/turnseal/zzlaws_internal_jsonscan_b1.FnIsHexCountsTwentyTwoOverEveryByte", spec := "fnIsHexCountsTwentyTwoOverEveryByte", apart := false }
def FnIsHexCountsTwentyTwoOverEveryByteSaid : Prop := fnIsHexCountsTwentyTwoOverEveryByteRow.holds Try.pinned (OpenSpec.ofChange fnIsHexCountsTwentyTwoOverEveryByteSpec)

/-- ITS FALSE NEIGHBOUR: 'it returns false'. Refute it at one input. -/
def fnIsHexCountsTwentyTwoOverEveryByteWrong : ChangeSpec := { name := "fnIsHexCountsTwentyTwoOverEveryByte", fn := fun _ => fun
  | [] => { results := [.lit (.bool false)], args := [] }
  | _ => none }
def FnIsHexCountsTwentyTwoOverEveryByteWrongFalsely : Prop := fnIsHexCountsTwentyTwoOverEveryByteRow.holds Try.pinned (OpenSpec.ofChange fnIsHexCountsTwentyTwoOverEveryByteWrong)

end Rows
end Go.Proofs.Qxb6614723a

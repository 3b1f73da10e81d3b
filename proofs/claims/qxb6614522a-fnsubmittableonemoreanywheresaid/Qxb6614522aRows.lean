/-
  No cell of these rows narrows 'for every input' (looked for: loops, veiled, ifaces, maps, wideKeys, modest, calm, conditions, laid).
  DERIVED. THE GIVEN ROWS OF THIS SEAT. 4 by the template 'for every input the law returns true; each argument reads behind the call as it read before'; 0 by the template 'total and deterministic' (their statements: Qxb6614522aTotals.lean).
  GIVEN WITH THE SEED: the statements are not yours to turn. If you find one false, say at which input.
  Laid BY PROGRAM, IN A SANDBOX (cutbox-rows.mjs): the forced cells as the released guide's own fill.sh prints them over the translation 8c28e5958dc524da… (all of the seat's roots in one cut). By AI agents, Wed Nov 11 2026. No macro, syntax, notation, axiom, sorry.
-/
import Derived.Test.Qxb6614522aChecked
import GoSem.Claim
import GoSem.ClaimJoined
import GoSem.ClaimMapViews
import Derived.JoinedTies
import Derived.KernelRfl
namespace Go.Proofs.Qxb6614522a
/- THE CELL 'sum', in the pinned program and in every row, IS THE sha256 OF THE DUMP (.gsa) THAT Qxb6614522aProg.lean LOADS. Nothing in Lean hashes anything: it is a label: what it is worth is what the hold of that sum in a sandbox is worth. -/
noncomputable def Try.pinned : Pinned := { name := "qxb6614522a", sum := "8c28e5958dc524daa75755efb0ccee9183e54f9721780e33b14bcceaed2ebfb2", checked := Try.checked }
namespace Rows
def none {H : Type} : Left H := { results := [], args := [] }

/-- 'zzlaws_root_b1.FnSubmittableJoinAtAnyCut': WHATEVER THE INPUT: true; the input reads as it did. -/
def fnSubmittableJoinAtAnyCutSpec : ChangeSpec := { name := "fnSubmittableJoinAtAnyCut", fn := fun _ => fun
  | [d1, d2] => { results := [.lit (.bool true)], args := [d1, d2] }
  | _ => none }
def fnSubmittableJoinAtAnyCutRow : OpenClaim := { program := "qxb6614522a", sum := "8c28e5958dc524daa75755efb0ccee9183e54f9721780e33b14bcceaed2ebfb2", func := "example.com/veto/veto/zzlaws_root_b1.FnSubmittableJoinAtAnyCut", spec := "fnSubmittableJoinAtAnyCut", apart := false }
def FnSubmittableJoinAtAnyCutSaid : Prop := fnSubmittableJoinAtAnyCutRow.holds Try.pinned (OpenSpec.ofChange fnSubmittableJoinAtAnyCutSpec)

/-- ITS FALSE NEIGHBOUR: 'it returns false'. Refute it at one input. -/
def fnSubmittableJoinAtAnyCutWrong : ChangeSpec := { name := "fnSubmittableJoinAtAnyCut", fn := fun _ => fun
  | [d1, d2] => { results := [.lit (.bool false)], args := [d1, d2] }
  | _ => none }
def FnSubmittableJoinAtAnyCutWrongFalsely : Prop := fnSubmittableJoinAtAnyCutRow.holds Try.pinned (OpenSpec.ofChange fnSubmittableJoinAtAnyCutWrong)

/-- 'zzlaws_root_b1.FnSubmittableOneMoreAnywhere': WHATEVER THE INPUT: true; the input reads as it did. -/
def fnSubmittableOneMoreAnywhereSpec : ChangeSpec := { name := "fnSubmittableOneMoreAnywhere", fn := fun _ => fun
  | [d1, d2, d3] => { results := [.lit (.bool true)], args := [d1, d2, d3] }
  | _ => none }
def fnSubmittableOneMoreAnywhereRow : OpenClaim := { program := "qxb6614522a", sum := "8c28e5958dc524daa75755efb0ccee9183e54f9721780e33b14bcceaed2ebfb2", func := "example.com/veto/veto/zzlaws_root_b1.FnSubmittableOneMoreAnywhere", spec := "fnSubmittableOneMoreAnywhere", apart := false }
def FnSubmittableOneMoreAnywhereSaid : Prop := fnSubmittableOneMoreAnywhereRow.holds Try.pinned (OpenSpec.ofChange fnSubmittableOneMoreAnywhereSpec)

/-- ITS FALSE NEIGHBOUR: 'it returns false'. Refute it at one input. -/
def fnSubmittableOneMoreAnywhereWrong : ChangeSpec := { name := "fnSubmittableOneMoreAnywhere", fn := fun _ => fun
  | [d1, d2, d3] => { results := [.lit (.bool false)], args := [d1, d2, d3] }
  | _ => none }
def FnSubmittableOneMoreAnywhereWrongFalsely : Prop := fnSubmittableOneMoreAnywhereRow.holds Try.pinned (OpenSpec.ofChange fnSubmittableOneMoreAnywhereWrong)

/-- 'zzlaws_root_b1.FnKeyTextReadsBackAsValue': WHATEVER THE INPUT: true; the input reads as it did. -/
def fnKeyTextReadsBackAsValueSpec : ChangeSpec := { name := "fnKeyTextReadsBackAsValue", fn := fun _ => fun
  | [d1, d2, d3] => { results := [.lit (.bool true)], args := [d1, d2, d3] }
  | _ => none }
def fnKeyTextReadsBackAsValueRow : OpenClaim := { program := "qxb6614522a", sum := "8c28e5958dc524daa75755efb0ccee9183e54f9721780e33b14bcceaed2ebfb2", func := "example.com/veto/veto/zzlaws_root_b1.FnKeyTextReadsBackAsValue", spec := "fnKeyTextReadsBackAsValue", inPlace := ["internal/abi.NoEscape", "internal/bytealg.IndexByteString", "internal/bytealg.IndexString"], named := ["internal/bytealg.MaxLen"], apart := false }
def FnKeyTextReadsBackAsValueSaid : Prop := fnKeyTextReadsBackAsValueRow.holds Try.pinned (OpenSpec.ofChange fnKeyTextReadsBackAsValueSpec)

/-- ITS FALSE NEIGHBOUR: 'it returns false'. Refute it at one input. -/
def fnKeyTextReadsBackAsValueWrong : ChangeSpec := { name := "fnKeyTextReadsBackAsValue", fn := fun _ => fun
  | [d1, d2, d3] => { results := [.lit (.bool false)], args := [d1, d2, d3] }
  | _ => none }
def FnKeyTextReadsBackAsValueWrongFalsely : Prop := fnKeyTextReadsBackAsValueRow.holds Try.pinned (OpenSpec.ofChange fnKeyTextReadsBackAsValueWrong)

/-- 'zzlaws_root_b1.FnKeyTextOneToOneInValue': WHATEVER THE INPUT: true; the input reads as it did. -/
def fnKeyTextOneToOneInValueSpec : ChangeSpec := { name := "fnKeyTextOneToOneInValue", fn := fun _ => fun
  | [d1, d2, d3] => { results := [.lit (.bool true)], args := [d1, d2, d3] }
  | _ => none }
def fnKeyTextOneToOneInValueRow : OpenClaim := { program := "qxb6614522a", sum := "8c28e5958dc524daa75755efb0ccee9183e54f9721780e33b14bcceaed2ebfb2", func := "example.com/veto/veto/zzlaws_root_b1.FnKeyTextOneToOneInValue", spec := "fnKeyTextOneToOneInValue", inPlace := ["internal/abi.NoEscape", "internal/bytealg.IndexByteString", "internal/bytealg.IndexString"], named := ["internal/bytealg.MaxLen"], apart := false }
def FnKeyTextOneToOneInValueSaid : Prop := fnKeyTextOneToOneInValueRow.holds Try.pinned (OpenSpec.ofChange fnKeyTextOneToOneInValueSpec)

/-- ITS FALSE NEIGHBOUR: 'it returns false'. Refute it at one input. -/
def fnKeyTextOneToOneInValueWrong : ChangeSpec := { name := "fnKeyTextOneToOneInValue", fn := fun _ => fun
  | [d1, d2, d3] => { results := [.lit (.bool false)], args := [d1, d2, d3] }
  | _ => none }
def FnKeyTextOneToOneInValueWrongFalsely : Prop := fnKeyTextOneToOneInValueRow.holds Try.pinned (OpenSpec.ofChange fnKeyTextOneToOneInValueWrong)

end Rows
end Go.Proofs.Qxb6614522a

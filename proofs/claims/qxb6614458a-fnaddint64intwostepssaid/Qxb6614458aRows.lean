/-
  No cell of these rows narrows 'for every input' (looked for: loops, veiled, ifaces, maps, wideKeys, modest, calm, conditions, laid).
  DERIVED. THE GIVEN ROWS OF THIS SEAT. 4 by the template 'for every input the law returns true; each argument reads behind the call as it read before'; 0 by the template 'total and deterministic' (their statements: Qxb6614458aTotals.lean).
  GIVEN WITH THE SEED: the statements are not yours to turn. If you find one false, say at which input.
  Laid BY PROGRAM, IN A SANDBOX (cutbox-rows.mjs): the forced cells as the released guide's own fill.sh prints them over the translation fe63ac0c1404e62e… (all of the seat's roots in one cut). By AI agents, Wed Nov 11 2026. No macro, syntax, notation, axiom, sorry.
-/
import Derived.Test.Qxb6614458aChecked
import GoSem.Claim
import GoSem.ClaimJoined
import GoSem.ClaimMapViews
import Derived.JoinedTies
import Derived.KernelRfl
namespace Go.Proofs.Qxb6614458a
/- THE CELL 'sum', in the pinned program and in every row, IS THE sha256 OF THE DUMP (.gsa) THAT Qxb6614458aProg.lean LOADS. Nothing in Lean hashes anything: it is a label: what it is worth is what the hold of that sum in a sandbox is worth. -/
noncomputable def Try.pinned : Pinned := { name := "qxb6614458a", sum := "fe63ac0c1404e62ef312b483aba6da280b477533170cac1129037251415fd1ae", checked := Try.checked }
namespace Rows
def none {H : Type} : Left H := { results := [], args := [] }

/-- 'zzlaws_history_b1.FnAddInt64UndoAndOverflow': WHATEVER THE INPUT: true; the input reads as it did. -/
def fnAddInt64UndoAndOverflowSpec : ChangeSpec := { name := "fnAddInt64UndoAndOverflow", fn := fun _ => fun
  | [d1, d2] => { results := [.lit (.bool true)], args := [d1, d2] }
  | _ => none }
def fnAddInt64UndoAndOverflowRow : OpenClaim := { program := "qxb6614458a", sum := "fe63ac0c1404e62ef312b483aba6da280b477533170cac1129037251415fd1ae", func := "example.com/isochron/isochron/zzlaws_history_b1.FnAddInt64UndoAndOverflow", spec := "fnAddInt64UndoAndOverflow", apart := false }
def FnAddInt64UndoAndOverflowSaid : Prop := fnAddInt64UndoAndOverflowRow.holds Try.pinned (OpenSpec.ofChange fnAddInt64UndoAndOverflowSpec)

/-- ITS FALSE NEIGHBOUR: 'it returns false'. Refute it at one input. -/
def fnAddInt64UndoAndOverflowWrong : ChangeSpec := { name := "fnAddInt64UndoAndOverflow", fn := fun _ => fun
  | [d1, d2] => { results := [.lit (.bool false)], args := [d1, d2] }
  | _ => none }
def FnAddInt64UndoAndOverflowWrongFalsely : Prop := fnAddInt64UndoAndOverflowRow.holds Try.pinned (OpenSpec.ofChange fnAddInt64UndoAndOverflowWrong)

/-- 'zzlaws_history_b1.FnAddInt64InTwoSteps': WHATEVER THE INPUT: true; the input reads as it did. -/
def fnAddInt64InTwoStepsSpec : ChangeSpec := { name := "fnAddInt64InTwoSteps", fn := fun _ => fun
  | [d1, d2, d3] => { results := [.lit (.bool true)], args := [d1, d2, d3] }
  | _ => none }
def fnAddInt64InTwoStepsRow : OpenClaim := { program := "qxb6614458a", sum := "fe63ac0c1404e62ef312b483aba6da280b477533170cac1129037251415fd1ae", func := "example.com/isochron/isochron/zzlaws_history_b1.FnAddInt64InTwoSteps", spec := "fnAddInt64InTwoSteps", apart := false }
def FnAddInt64InTwoStepsSaid : Prop := fnAddInt64InTwoStepsRow.holds Try.pinned (OpenSpec.ofChange fnAddInt64InTwoStepsSpec)

/-- ITS FALSE NEIGHBOUR: 'it returns false'. Refute it at one input. -/
def fnAddInt64InTwoStepsWrong : ChangeSpec := { name := "fnAddInt64InTwoSteps", fn := fun _ => fun
  | [d1, d2, d3] => { results := [.lit (.bool false)], args := [d1, d2, d3] }
  | _ => none }
def FnAddInt64InTwoStepsWrongFalsely : Prop := fnAddInt64InTwoStepsRow.holds Try.pinned (OpenSpec.ofChange fnAddInt64InTwoStepsWrong)

/-- 'zzlaws_history_b1.FnCandidateOffersEveryEligibleOnceInRounds': WHATEVER THE INPUT: true; the input reads as it did. -/
def fnCandidateOffersEveryEligibleOnceInRoundsSpec : ChangeSpec := { name := "fnCandidateOffersEveryEligibleOnceInRounds", fn := fun _ => fun
  | [d1, d2, d3, d4, d5, d6] => { results := [.lit (.bool true)], args := [d1, d2, d3, d4, d5, d6] }
  | _ => none }
def fnCandidateOffersEveryEligibleOnceInRoundsRow : OpenClaim := { program := "qxb6614458a", sum := "fe63ac0c1404e62ef312b483aba6da280b477533170cac1129037251415fd1ae", func := "example.com/isochron/isochron/zzlaws_history_b1.FnCandidateOffersEveryEligibleOnceInRounds", spec := "fnCandidateOffersEveryEligibleOnceInRounds", unfollowed := true, recurses := true, apart := false }
def FnCandidateOffersEveryEligibleOnceInRoundsSaid : Prop := fnCandidateOffersEveryEligibleOnceInRoundsRow.holds Try.pinned (OpenSpec.ofChange fnCandidateOffersEveryEligibleOnceInRoundsSpec)

/-- ITS FALSE NEIGHBOUR: 'it returns false'. Refute it at one input. -/
def fnCandidateOffersEveryEligibleOnceInRoundsWrong : ChangeSpec := { name := "fnCandidateOffersEveryEligibleOnceInRounds", fn := fun _ => fun
  | [d1, d2, d3, d4, d5, d6] => { results := [.lit (.bool false)], args := [d1, d2, d3, d4, d5, d6] }
  | _ => none }
def FnCandidateOffersEveryEligibleOnceInRoundsWrongFalsely : Prop := fnCandidateOffersEveryEligibleOnceInRoundsRow.holds Try.pinned (OpenSpec.ofChange fnCandidateOffersEveryEligibleOnceInRoundsWrong)

/-- 'zzlaws_history_b1.FnCandidatePlacingAnOfferDropsJustIt': WHATEVER THE INPUT: true; the input reads as it did. -/
def fnCandidatePlacingAnOfferDropsJustItSpec : ChangeSpec := { name := "fnCandidatePlacingAnOfferDropsJustIt", fn := fun _ => fun
  | [d1, d2, d3, d4, d5, d6, d7] => { results := [.lit (.bool true)], args := [d1, d2, d3, d4, d5, d6, d7] }
  | _ => none }
def fnCandidatePlacingAnOfferDropsJustItRow : OpenClaim := { program := "qxb6614458a", sum := "fe63ac0c1404e62ef312b483aba6da280b477533170cac1129037251415fd1ae", func := "example.com/isochron/isochron/zzlaws_history_b1.FnCandidatePlacingAnOfferDropsJustIt", spec := "fnCandidatePlacingAnOfferDropsJustIt", unfollowed := true, recurses := true, apart := false }
def FnCandidatePlacingAnOfferDropsJustItSaid : Prop := fnCandidatePlacingAnOfferDropsJustItRow.holds Try.pinned (OpenSpec.ofChange fnCandidatePlacingAnOfferDropsJustItSpec)

/-- ITS FALSE NEIGHBOUR: 'it returns false'. Refute it at one input. -/
def fnCandidatePlacingAnOfferDropsJustItWrong : ChangeSpec := { name := "fnCandidatePlacingAnOfferDropsJustIt", fn := fun _ => fun
  | [d1, d2, d3, d4, d5, d6, d7] => { results := [.lit (.bool false)], args := [d1, d2, d3, d4, d5, d6, d7] }
  | _ => none }
def FnCandidatePlacingAnOfferDropsJustItWrongFalsely : Prop := fnCandidatePlacingAnOfferDropsJustItRow.holds Try.pinned (OpenSpec.ofChange fnCandidatePlacingAnOfferDropsJustItWrong)

end Rows
end Go.Proofs.Qxb6614458a

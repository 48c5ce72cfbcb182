/-
  No cell of these rows narrows 'for every input' (looked for: loops, veiled, ifaces, maps, wideKeys, modest, calm, conditions, laid).
  DERIVED. THE GIVEN ROWS OF THIS SEAT. 7 by the template 'for every input the law returns true; each argument reads behind the call as it read before'; 0 by the template 'total and deterministic' (their statements: Qxb6602710aTotals.lean).
  GIVEN WITH THE SEED: the statements are not yours to turn. If you find one false, say at which input.
  Laid BY PROGRAM, IN A SANDBOX (cutbox-rows.mjs): the forced cells as the released guide's own fill.sh prints them over the translation 7a26ece2e52c3717… (all of the seat's roots in one cut). By AI agents, Wed Nov 11 2026. No macro, syntax, notation, axiom, sorry.
-/
import Derived.Test.Qxb6602710aChecked
import GoSem.Claim
import GoSem.ClaimJoined
import GoSem.ClaimMapViews
import Derived.JoinedTies
import Derived.KernelRfl
namespace Go.Proofs.Qxb6602710a
/- THE CELL 'sum', in the pinned program and in every row, IS THE sha256 OF THE DUMP (.gsa) THAT Qxb6602710aProg.lean LOADS. Nothing in Lean hashes anything: it is a label: what it is worth is what the hold of that sum in a sandbox is worth. -/
noncomputable def Try.pinned : Pinned := { name := "qxb6602710a", sum := "7a26ece2e52c3717921d5a7c342d61fd8d41f827a18cbb2836ab8c1e513140eb", checked := Try.checked }
namespace Rows
def none {H : Type} : Left H := { results := [], args := [] }

/-- 'zzlaws_sim_b1.FnLongestIsFirstHighest': WHATEVER THE INPUT: true; the input reads as it did. -/
def fnLongestIsFirstHighestSpec : ChangeSpec := { name := "fnLongestIsFirstHighest", fn := fun _ => fun
  | [d1, d2, d3] => { results := [.lit (.bool true)], args := [d1, d2, d3] }
  | _ => none }
def fnLongestIsFirstHighestRow : OpenClaim := { program := "qxb6602710a", sum := "7a26ece2e52c3717921d5a7c342d61fd8d41f827a18cbb2836ab8c1e513140eb", func := "example.com/quorumbridge/quorumbridge/zzlaws_sim_b1.FnLongestIsFirstHighest", spec := "fnLongestIsFirstHighest", plainKeys := false, apart := false }
def FnLongestIsFirstHighestSaid : Prop := fnLongestIsFirstHighestRow.holds Try.pinned (OpenSpec.ofChange fnLongestIsFirstHighestSpec)

/-- ITS FALSE NEIGHBOUR: 'it returns false'. Refute it at one input. -/
def fnLongestIsFirstHighestWrong : ChangeSpec := { name := "fnLongestIsFirstHighest", fn := fun _ => fun
  | [d1, d2, d3] => { results := [.lit (.bool false)], args := [d1, d2, d3] }
  | _ => none }
def FnLongestIsFirstHighestWrongFalsely : Prop := fnLongestIsFirstHighestRow.holds Try.pinned (OpenSpec.ofChange fnLongestIsFirstHighestWrong)

/-- 'zzlaws_sim_b1.FnLongestAppendOne': WHATEVER THE INPUT: true; the input reads as it did. -/
def fnLongestAppendOneSpec : ChangeSpec := { name := "fnLongestAppendOne", fn := fun _ => fun
  | [d1, d2, d3, d4, d5, d6] => { results := [.lit (.bool true)], args := [d1, d2, d3, d4, d5, d6] }
  | _ => none }
def fnLongestAppendOneRow : OpenClaim := { program := "qxb6602710a", sum := "7a26ece2e52c3717921d5a7c342d61fd8d41f827a18cbb2836ab8c1e513140eb", func := "example.com/quorumbridge/quorumbridge/zzlaws_sim_b1.FnLongestAppendOne", spec := "fnLongestAppendOne", plainKeys := false, apart := false }
def FnLongestAppendOneSaid : Prop := fnLongestAppendOneRow.holds Try.pinned (OpenSpec.ofChange fnLongestAppendOneSpec)

/-- ITS FALSE NEIGHBOUR: 'it returns false'. Refute it at one input. -/
def fnLongestAppendOneWrong : ChangeSpec := { name := "fnLongestAppendOne", fn := fun _ => fun
  | [d1, d2, d3, d4, d5, d6] => { results := [.lit (.bool false)], args := [d1, d2, d3, d4, d5, d6] }
  | _ => none }
def FnLongestAppendOneWrongFalsely : Prop := fnLongestAppendOneRow.holds Try.pinned (OpenSpec.ofChange fnLongestAppendOneWrong)

/-- 'zzlaws_sim_b1.FnConflictsCountsMismatchByPosition': WHATEVER THE INPUT: true; the input reads as it did. -/
def fnConflictsCountsMismatchByPositionSpec : ChangeSpec := { name := "fnConflictsCountsMismatchByPosition", fn := fun _ => fun
  | [d1, d2, d3, d4] => { results := [.lit (.bool true)], args := [d1, d2, d3, d4] }
  | _ => none }
def fnConflictsCountsMismatchByPositionRow : OpenClaim := { program := "qxb6602710a", sum := "7a26ece2e52c3717921d5a7c342d61fd8d41f827a18cbb2836ab8c1e513140eb", func := "example.com/quorumbridge/quorumbridge/zzlaws_sim_b1.FnConflictsCountsMismatchByPosition", spec := "fnConflictsCountsMismatchByPosition", plainKeys := false, apart := false }
def FnConflictsCountsMismatchByPositionSaid : Prop := fnConflictsCountsMismatchByPositionRow.holds Try.pinned (OpenSpec.ofChange fnConflictsCountsMismatchByPositionSpec)

/-- ITS FALSE NEIGHBOUR: 'it returns false'. Refute it at one input. -/
def fnConflictsCountsMismatchByPositionWrong : ChangeSpec := { name := "fnConflictsCountsMismatchByPosition", fn := fun _ => fun
  | [d1, d2, d3, d4] => { results := [.lit (.bool false)], args := [d1, d2, d3, d4] }
  | _ => none }
def FnConflictsCountsMismatchByPositionWrongFalsely : Prop := fnConflictsCountsMismatchByPositionRow.holds Try.pinned (OpenSpec.ofChange fnConflictsCountsMismatchByPositionWrong)

/-- 'zzlaws_sim_b1.FnConflictsSplitsReversesAndBounds': WHATEVER THE INPUT: true; the input reads as it did. -/
def fnConflictsSplitsReversesAndBoundsSpec : ChangeSpec := { name := "fnConflictsSplitsReversesAndBounds", fn := fun _ => fun
  | [d1, d2, d3, d4, d5] => { results := [.lit (.bool true)], args := [d1, d2, d3, d4, d5] }
  | _ => none }
def fnConflictsSplitsReversesAndBoundsRow : OpenClaim := { program := "qxb6602710a", sum := "7a26ece2e52c3717921d5a7c342d61fd8d41f827a18cbb2836ab8c1e513140eb", func := "example.com/quorumbridge/quorumbridge/zzlaws_sim_b1.FnConflictsSplitsReversesAndBounds", spec := "fnConflictsSplitsReversesAndBounds", plainKeys := false, apart := false }
def FnConflictsSplitsReversesAndBoundsSaid : Prop := fnConflictsSplitsReversesAndBoundsRow.holds Try.pinned (OpenSpec.ofChange fnConflictsSplitsReversesAndBoundsSpec)

/-- ITS FALSE NEIGHBOUR: 'it returns false'. Refute it at one input. -/
def fnConflictsSplitsReversesAndBoundsWrong : ChangeSpec := { name := "fnConflictsSplitsReversesAndBounds", fn := fun _ => fun
  | [d1, d2, d3, d4, d5] => { results := [.lit (.bool false)], args := [d1, d2, d3, d4, d5] }
  | _ => none }
def FnConflictsSplitsReversesAndBoundsWrongFalsely : Prop := fnConflictsSplitsReversesAndBoundsRow.holds Try.pinned (OpenSpec.ofChange fnConflictsSplitsReversesAndBoundsWrong)

/-- 'zzlaws_sim_b1.FnConflictsZeroOnOwnLogOneOnAFlip': WHATEVER THE INPUT: true; the input reads as it did. -/
def fnConflictsZeroOnOwnLogOneOnAFlipSpec : ChangeSpec := { name := "fnConflictsZeroOnOwnLogOneOnAFlip", fn := fun _ => fun
  | [d1, d2, d3, d4, d5] => { results := [.lit (.bool true)], args := [d1, d2, d3, d4, d5] }
  | _ => none }
def fnConflictsZeroOnOwnLogOneOnAFlipRow : OpenClaim := { program := "qxb6602710a", sum := "7a26ece2e52c3717921d5a7c342d61fd8d41f827a18cbb2836ab8c1e513140eb", func := "example.com/quorumbridge/quorumbridge/zzlaws_sim_b1.FnConflictsZeroOnOwnLogOneOnAFlip", spec := "fnConflictsZeroOnOwnLogOneOnAFlip", plainKeys := false, apart := false }
def FnConflictsZeroOnOwnLogOneOnAFlipSaid : Prop := fnConflictsZeroOnOwnLogOneOnAFlipRow.holds Try.pinned (OpenSpec.ofChange fnConflictsZeroOnOwnLogOneOnAFlipSpec)

/-- ITS FALSE NEIGHBOUR: 'it returns false'. Refute it at one input. -/
def fnConflictsZeroOnOwnLogOneOnAFlipWrong : ChangeSpec := { name := "fnConflictsZeroOnOwnLogOneOnAFlip", fn := fun _ => fun
  | [d1, d2, d3, d4, d5] => { results := [.lit (.bool false)], args := [d1, d2, d3, d4, d5] }
  | _ => none }
def FnConflictsZeroOnOwnLogOneOnAFlipWrongFalsely : Prop := fnConflictsZeroOnOwnLogOneOnAFlipRow.holds Try.pinned (OpenSpec.ofChange fnConflictsZeroOnOwnLogOneOnAFlipWrong)

/-- 'zzlaws_sim_b1.FnForgottenAddExact': WHATEVER THE INPUT: true; the input reads as it did. -/
def fnForgottenAddExactSpec : ChangeSpec := { name := "fnForgottenAddExact", fn := fun _ => fun
  | [d1, d2, d3, d4, d5] => { results := [.lit (.bool true)], args := [d1, d2, d3, d4, d5] }
  | _ => none }
def fnForgottenAddExactRow : OpenClaim := { program := "qxb6602710a", sum := "7a26ece2e52c3717921d5a7c342d61fd8d41f827a18cbb2836ab8c1e513140eb", func := "example.com/quorumbridge/quorumbridge/zzlaws_sim_b1.FnForgottenAddExact", spec := "fnForgottenAddExact", plainKeys := false, apart := false }
def FnForgottenAddExactSaid : Prop := fnForgottenAddExactRow.holds Try.pinned (OpenSpec.ofChange fnForgottenAddExactSpec)

/-- ITS FALSE NEIGHBOUR: 'it returns false'. Refute it at one input. -/
def fnForgottenAddExactWrong : ChangeSpec := { name := "fnForgottenAddExact", fn := fun _ => fun
  | [d1, d2, d3, d4, d5] => { results := [.lit (.bool false)], args := [d1, d2, d3, d4, d5] }
  | _ => none }
def FnForgottenAddExactWrongFalsely : Prop := fnForgottenAddExactRow.holds Try.pinned (OpenSpec.ofChange fnForgottenAddExactWrong)

/-- 'zzlaws_sim_b1.FnForgottenAddScriptIsSetOfPairs': WHATEVER THE INPUT: true; the input reads as it did. -/
def fnForgottenAddScriptIsSetOfPairsSpec : ChangeSpec := { name := "fnForgottenAddScriptIsSetOfPairs", fn := fun _ => fun
  | [d1, d2, d3] => { results := [.lit (.bool true)], args := [d1, d2, d3] }
  | _ => none }
def fnForgottenAddScriptIsSetOfPairsRow : OpenClaim := { program := "qxb6602710a", sum := "7a26ece2e52c3717921d5a7c342d61fd8d41f827a18cbb2836ab8c1e513140eb", func := "example.com/quorumbridge/quorumbridge/zzlaws_sim_b1.FnForgottenAddScriptIsSetOfPairs", spec := "fnForgottenAddScriptIsSetOfPairs", plainKeys := false, apart := false }
def FnForgottenAddScriptIsSetOfPairsSaid : Prop := fnForgottenAddScriptIsSetOfPairsRow.holds Try.pinned (OpenSpec.ofChange fnForgottenAddScriptIsSetOfPairsSpec)

/-- ITS FALSE NEIGHBOUR: 'it returns false'. Refute it at one input. -/
def fnForgottenAddScriptIsSetOfPairsWrong : ChangeSpec := { name := "fnForgottenAddScriptIsSetOfPairs", fn := fun _ => fun
  | [d1, d2, d3] => { results := [.lit (.bool false)], args := [d1, d2, d3] }
  | _ => none }
def FnForgottenAddScriptIsSetOfPairsWrongFalsely : Prop := fnForgottenAddScriptIsSetOfPairsRow.holds Try.pinned (OpenSpec.ofChange fnForgottenAddScriptIsSetOfPairsWrong)

end Rows
end Go.Proofs.Qxb6602710a

/-
  No cell of these rows narrows 'for every input' (looked for: loops, veiled, ifaces, maps, wideKeys, modest, calm, conditions, laid).
  DERIVED. THE GIVEN ROWS OF THIS SEAT. 5 by the template 'for every input the law returns true; each argument reads behind the call as it read before'; 0 by the template 'total and deterministic' (their statements: Qxb6602792aTotals.lean).
  GIVEN WITH THE SEED: the statements are not yours to turn. If you find one false, say at which input.
  Laid BY PROGRAM, IN A SANDBOX (cutbox-rows.mjs): the forced cells as the released guide's own fill.sh prints them over the translation 26213aa4104d2ac1… (all of the seat's roots in one cut). By AI agents, Wed Nov 11 2026. No macro, syntax, notation, axiom, sorry.
-/
import Derived.Test.Qxb6602792aChecked
import GoSem.Claim
import GoSem.ClaimJoined
import GoSem.ClaimMapViews
import Derived.JoinedTies
import Derived.KernelRfl
namespace Go.Proofs.Qxb6602792a
/- THE CELL 'sum', in the pinned program and in every row, IS THE sha256 OF THE DUMP (.gsa) THAT Qxb6602792aProg.lean LOADS. Nothing in Lean hashes anything: it is a label: what it is worth is what the hold of that sum in a sandbox is worth. -/
noncomputable def Try.pinned : Pinned := { name := "qxb6602792a", sum := "26213aa4104d2ac1fe15c5ed0d27a2bde3e485ba95e179c28d1fded8dfce9fc8", checked := Try.checked }
namespace Rows
def none {H : Type} : Left H := { results := [], args := [] }

/-- 'zzlaws_internal_jsonobj_b1.FnNamesAddMatchesSetModel': WHATEVER THE INPUT: true; the input reads as it did. -/
def fnNamesAddMatchesSetModelSpec : ChangeSpec := { name := "fnNamesAddMatchesSetModel", fn := fun _ => fun
  | [d1, d2, d3, d4] => { results := [.lit (.bool true)], args := [d1, d2, d3, d4] }
  | _ => none }
def fnNamesAddMatchesSetModelRow : OpenClaim := { program := "qxb6602792a", sum := "26213aa4104d2ac1fe15c5ed0d27a2bde3e485ba95e179c28d1fded8dfce9fc8", func := "example.com/sealbearer/sealbearer/zzlaws_internal_jsonobj_b1.FnNamesAddMatchesSetModel", spec := "fnNamesAddMatchesSetModel", apart := false }
def FnNamesAddMatchesSetModelSaid : Prop := fnNamesAddMatchesSetModelRow.holds Try.pinned (OpenSpec.ofChange fnNamesAddMatchesSetModelSpec)

/-- ITS FALSE NEIGHBOUR: 'it returns false'. Refute it at one input. -/
def fnNamesAddMatchesSetModelWrong : ChangeSpec := { name := "fnNamesAddMatchesSetModel", fn := fun _ => fun
  | [d1, d2, d3, d4] => { results := [.lit (.bool false)], args := [d1, d2, d3, d4] }
  | _ => none }
def FnNamesAddMatchesSetModelWrongFalsely : Prop := fnNamesAddMatchesSetModelRow.holds Try.pinned (OpenSpec.ofChange fnNamesAddMatchesSetModelWrong)

/-- 'zzlaws_internal_jsonobj_b1.FnNamesAddScriptKeepsASet': WHATEVER THE INPUT: true; the input reads as it did. -/
def fnNamesAddScriptKeepsASetSpec : ChangeSpec := { name := "fnNamesAddScriptKeepsASet", fn := fun _ => fun
  | [d] => { results := [.lit (.bool true)], args := [d] }
  | _ => none }
def fnNamesAddScriptKeepsASetRow : OpenClaim := { program := "qxb6602792a", sum := "26213aa4104d2ac1fe15c5ed0d27a2bde3e485ba95e179c28d1fded8dfce9fc8", func := "example.com/sealbearer/sealbearer/zzlaws_internal_jsonobj_b1.FnNamesAddScriptKeepsASet", spec := "fnNamesAddScriptKeepsASet", apart := false }
def FnNamesAddScriptKeepsASetSaid : Prop := fnNamesAddScriptKeepsASetRow.holds Try.pinned (OpenSpec.ofChange fnNamesAddScriptKeepsASetSpec)

/-- ITS FALSE NEIGHBOUR: 'it returns false'. Refute it at one input. -/
def fnNamesAddScriptKeepsASetWrong : ChangeSpec := { name := "fnNamesAddScriptKeepsASet", fn := fun _ => fun
  | [d] => { results := [.lit (.bool false)], args := [d] }
  | _ => none }
def FnNamesAddScriptKeepsASetWrongFalsely : Prop := fnNamesAddScriptKeepsASetRow.holds Try.pinned (OpenSpec.ofChange fnNamesAddScriptKeepsASetWrong)

/-- 'zzlaws_internal_jsonobj_b1.FnWalkerStrEndsAtFirstUnescapedQuote': WHATEVER THE INPUT: true; the input reads as it did. -/
def fnWalkerStrEndsAtFirstUnescapedQuoteSpec : ChangeSpec := { name := "fnWalkerStrEndsAtFirstUnescapedQuote", fn := fun _ => fun
  | [d1, d2] => { results := [.lit (.bool true)], args := [d1, d2] }
  | _ => none }
def fnWalkerStrEndsAtFirstUnescapedQuoteRow : OpenClaim := { program := "qxb6602792a", sum := "26213aa4104d2ac1fe15c5ed0d27a2bde3e485ba95e179c28d1fded8dfce9fc8", func := "example.com/sealbearer/sealbearer/zzlaws_internal_jsonobj_b1.FnWalkerStrEndsAtFirstUnescapedQuote", spec := "fnWalkerStrEndsAtFirstUnescapedQuote", apart := false }
def FnWalkerStrEndsAtFirstUnescapedQuoteSaid : Prop := fnWalkerStrEndsAtFirstUnescapedQuoteRow.holds Try.pinned (OpenSpec.ofChange fnWalkerStrEndsAtFirstUnescapedQuoteSpec)

/-- ITS FALSE NEIGHBOUR: 'it returns false'. Refute it at one input. -/
def fnWalkerStrEndsAtFirstUnescapedQuoteWrong : ChangeSpec := { name := "fnWalkerStrEndsAtFirstUnescapedQuote", fn := fun _ => fun
  | [d1, d2] => { results := [.lit (.bool false)], args := [d1, d2] }
  | _ => none }
def FnWalkerStrEndsAtFirstUnescapedQuoteWrongFalsely : Prop := fnWalkerStrEndsAtFirstUnescapedQuoteRow.holds Try.pinned (OpenSpec.ofChange fnWalkerStrEndsAtFirstUnescapedQuoteWrong)

/-- 'zzlaws_internal_jsonobj_b1.FnWalkerStrSkipsAnEscapedString': WHATEVER THE INPUT: true; the input reads as it did. -/
def fnWalkerStrSkipsAnEscapedStringSpec : ChangeSpec := { name := "fnWalkerStrSkipsAnEscapedString", fn := fun _ => fun
  | [d1, d2, d3] => { results := [.lit (.bool true)], args := [d1, d2, d3] }
  | _ => none }
def fnWalkerStrSkipsAnEscapedStringRow : OpenClaim := { program := "qxb6602792a", sum := "26213aa4104d2ac1fe15c5ed0d27a2bde3e485ba95e179c28d1fded8dfce9fc8", func := "example.com/sealbearer/sealbearer/zzlaws_internal_jsonobj_b1.FnWalkerStrSkipsAnEscapedString", spec := "fnWalkerStrSkipsAnEscapedString", apart := false }
def FnWalkerStrSkipsAnEscapedStringSaid : Prop := fnWalkerStrSkipsAnEscapedStringRow.holds Try.pinned (OpenSpec.ofChange fnWalkerStrSkipsAnEscapedStringSpec)

/-- ITS FALSE NEIGHBOUR: 'it returns false'. Refute it at one input. -/
def fnWalkerStrSkipsAnEscapedStringWrong : ChangeSpec := { name := "fnWalkerStrSkipsAnEscapedString", fn := fun _ => fun
  | [d1, d2, d3] => { results := [.lit (.bool false)], args := [d1, d2, d3] }
  | _ => none }
def FnWalkerStrSkipsAnEscapedStringWrongFalsely : Prop := fnWalkerStrSkipsAnEscapedStringRow.holds Try.pinned (OpenSpec.ofChange fnWalkerStrSkipsAnEscapedStringWrong)

/-- 'zzlaws_internal_jsonobj_b1.FnWalkerSkipPassesSeparatorAndSpace': WHATEVER THE INPUT: true; the input reads as it did. -/
def fnWalkerSkipPassesSeparatorAndSpaceSpec : ChangeSpec := { name := "fnWalkerSkipPassesSeparatorAndSpace", fn := fun _ => fun
  | [d1, d2, d3] => { results := [.lit (.bool true)], args := [d1, d2, d3] }
  | _ => none }
def fnWalkerSkipPassesSeparatorAndSpaceRow : OpenClaim := { program := "qxb6602792a", sum := "26213aa4104d2ac1fe15c5ed0d27a2bde3e485ba95e179c28d1fded8dfce9fc8", func := "example.com/sealbearer/sealbearer/zzlaws_internal_jsonobj_b1.FnWalkerSkipPassesSeparatorAndSpace", spec := "fnWalkerSkipPassesSeparatorAndSpace", apart := false }
def FnWalkerSkipPassesSeparatorAndSpaceSaid : Prop := fnWalkerSkipPassesSeparatorAndSpaceRow.holds Try.pinned (OpenSpec.ofChange fnWalkerSkipPassesSeparatorAndSpaceSpec)

/-- ITS FALSE NEIGHBOUR: 'it returns false'. Refute it at one input. -/
def fnWalkerSkipPassesSeparatorAndSpaceWrong : ChangeSpec := { name := "fnWalkerSkipPassesSeparatorAndSpace", fn := fun _ => fun
  | [d1, d2, d3] => { results := [.lit (.bool false)], args := [d1, d2, d3] }
  | _ => none }
def FnWalkerSkipPassesSeparatorAndSpaceWrongFalsely : Prop := fnWalkerSkipPassesSeparatorAndSpaceRow.holds Try.pinned (OpenSpec.ofChange fnWalkerSkipPassesSeparatorAndSpaceWrong)

end Rows
end Go.Proofs.Qxb6602792a

/-
  No cell of these rows narrows 'for every input' (looked for: loops, veiled, ifaces, maps, wideKeys, modest, calm, conditions, laid).
  DERIVED. THE GIVEN ROWS OF THIS SEAT. 5 by the template 'for every input the law returns true; each argument reads behind the call as it read before'; 0 by the template 'total and deterministic' (their statements: Qxb6614247aModsTotals.lean).
  GIVEN WITH THE SEED: the statements are not yours to turn. If you find one false, say at which input.
  Laid BY PROGRAM, IN A SANDBOX (cutbox-rows.mjs): the forced cells as the released guide's own fill.sh prints them over the translation 72c22fd39a66cd25… (all of the seat's roots in one cut). By AI agents, Wed Nov 11 2026. No macro, syntax, notation, axiom, sorry.
-/
import Derived.Test.Qxb6614247aModsChecked
import GoSem.Claim
import GoSem.ClaimJoined
import GoSem.ClaimMapViews
import Derived.JoinedTies
import Derived.KernelRfl
namespace Go.Proofs.Qxb6614247aMods
/- THE CELL 'sum', in the pinned program and in every row, IS THE sha256 OF THE DUMP (.gsa) THAT Qxb6614247aModsProg.lean LOADS. Nothing in Lean hashes anything: it is a label: what it is worth is what the hold of that sum in a sandbox is worth. -/
noncomputable def Trym.pinned : Pinned := { name := "qxb6614247amods", sum := "72c22fd39a66cd2542a4ec98b42ce0e776601c76771dc0a57e002b64c8e37f94", checked := Trym.checked }
namespace Rows
def none {H : Type} : Left H := { results := [], args := [] }

/-- 'zzlaws_internal_fieldrules_b1.FnIsLetterFoldsToOneRangeAndIgnoresCase': WHATEVER THE INPUT: true; the input reads as it did. -/
def fnIsLetterFoldsToOneRangeAndIgnoresCaseSpec : ChangeSpec := { name := "fnIsLetterFoldsToOneRangeAndIgnoresCase", fn := fun _ => fun
  | [d] => { results := [.lit (.bool true)], args := [d] }
  | _ => none }
def fnIsLetterFoldsToOneRangeAndIgnoresCaseRow : OpenClaim := { program := "qxb6614247amods", sum := "72c22fd39a66cd2542a4ec98b42ce0e776601c76771dc0a57e002b64c8e37f94", func := "example.com/tidings/tidings/zzlaws_internal_fieldrules_b1.FnIsLetterFoldsToOneRangeAndIgnoresCase", spec := "fnIsLetterFoldsToOneRangeAndIgnoresCase", make := .lifted ["publicsums"], apart := false }
def FnIsLetterFoldsToOneRangeAndIgnoresCaseSaid : Prop := fnIsLetterFoldsToOneRangeAndIgnoresCaseRow.holds Trym.pinned (OpenSpec.ofChange fnIsLetterFoldsToOneRangeAndIgnoresCaseSpec)

/-- ITS FALSE NEIGHBOUR: 'it returns false'. Refute it at one input. -/
def fnIsLetterFoldsToOneRangeAndIgnoresCaseWrong : ChangeSpec := { name := "fnIsLetterFoldsToOneRangeAndIgnoresCase", fn := fun _ => fun
  | [d] => { results := [.lit (.bool false)], args := [d] }
  | _ => none }
def FnIsLetterFoldsToOneRangeAndIgnoresCaseWrongFalsely : Prop := fnIsLetterFoldsToOneRangeAndIgnoresCaseRow.holds Trym.pinned (OpenSpec.ofChange fnIsLetterFoldsToOneRangeAndIgnoresCaseWrong)

/-- 'zzlaws_internal_fieldrules_b1.FnIsLetterCountUpToCIsClosedForm': WHATEVER THE INPUT: true; the input reads as it did. -/
def fnIsLetterCountUpToCIsClosedFormSpec : ChangeSpec := { name := "fnIsLetterCountUpToCIsClosedForm", fn := fun _ => fun
  | [d] => { results := [.lit (.bool true)], args := [d] }
  | _ => none }
def fnIsLetterCountUpToCIsClosedFormRow : OpenClaim := { program := "qxb6614247amods", sum := "72c22fd39a66cd2542a4ec98b42ce0e776601c76771dc0a57e002b64c8e37f94", func := "example.com/tidings/tidings/zzlaws_internal_fieldrules_b1.FnIsLetterCountUpToCIsClosedForm", spec := "fnIsLetterCountUpToCIsClosedForm", make := .lifted ["publicsums"], apart := false }
def FnIsLetterCountUpToCIsClosedFormSaid : Prop := fnIsLetterCountUpToCIsClosedFormRow.holds Trym.pinned (OpenSpec.ofChange fnIsLetterCountUpToCIsClosedFormSpec)

/-- ITS FALSE NEIGHBOUR: 'it returns false'. Refute it at one input. -/
def fnIsLetterCountUpToCIsClosedFormWrong : ChangeSpec := { name := "fnIsLetterCountUpToCIsClosedForm", fn := fun _ => fun
  | [d] => { results := [.lit (.bool false)], args := [d] }
  | _ => none }
def FnIsLetterCountUpToCIsClosedFormWrongFalsely : Prop := fnIsLetterCountUpToCIsClosedFormRow.holds Trym.pinned (OpenSpec.ofChange fnIsLetterCountUpToCIsClosedFormWrong)

/-- 'zzlaws_internal_fieldrules_b1.FnHasJoinsInsertsAndDeletes': WHATEVER THE INPUT: true; the input reads as it did. -/
def fnHasJoinsInsertsAndDeletesSpec : ChangeSpec := { name := "fnHasJoinsInsertsAndDeletes", fn := fun _ => fun
  | [d1, d2, d3, d4, d5, d6] => { results := [.lit (.bool true)], args := [d1, d2, d3, d4, d5, d6] }
  | _ => none }
def fnHasJoinsInsertsAndDeletesRow : OpenClaim := { program := "qxb6614247amods", sum := "72c22fd39a66cd2542a4ec98b42ce0e776601c76771dc0a57e002b64c8e37f94", func := "example.com/tidings/tidings/zzlaws_internal_fieldrules_b1.FnHasJoinsInsertsAndDeletes", spec := "fnHasJoinsInsertsAndDeletes", unfollowed := true, recurses := true, make := .lifted ["publicsums"], apart := false }
def FnHasJoinsInsertsAndDeletesSaid : Prop := fnHasJoinsInsertsAndDeletesRow.holds Trym.pinned (OpenSpec.ofChange fnHasJoinsInsertsAndDeletesSpec)

/-- ITS FALSE NEIGHBOUR: 'it returns false'. Refute it at one input. -/
def fnHasJoinsInsertsAndDeletesWrong : ChangeSpec := { name := "fnHasJoinsInsertsAndDeletes", fn := fun _ => fun
  | [d1, d2, d3, d4, d5, d6] => { results := [.lit (.bool false)], args := [d1, d2, d3, d4, d5, d6] }
  | _ => none }
def FnHasJoinsInsertsAndDeletesWrongFalsely : Prop := fnHasJoinsInsertsAndDeletesRow.holds Trym.pinned (OpenSpec.ofChange fnHasJoinsInsertsAndDeletesWrong)

/-- 'zzlaws_internal_fieldrules_b1.FnHasAfterAppendKeepsFirstValue': WHATEVER THE INPUT: true; the input reads as it did. -/
def fnHasAfterAppendKeepsFirstValueSpec : ChangeSpec := { name := "fnHasAfterAppendKeepsFirstValue", fn := fun _ => fun
  | [d1, d2, d3, d4] => { results := [.lit (.bool true)], args := [d1, d2, d3, d4] }
  | _ => none }
def fnHasAfterAppendKeepsFirstValueRow : OpenClaim := { program := "qxb6614247amods", sum := "72c22fd39a66cd2542a4ec98b42ce0e776601c76771dc0a57e002b64c8e37f94", func := "example.com/tidings/tidings/zzlaws_internal_fieldrules_b1.FnHasAfterAppendKeepsFirstValue", spec := "fnHasAfterAppendKeepsFirstValue", unfollowed := true, recurses := true, make := .lifted ["publicsums"], apart := false }
def FnHasAfterAppendKeepsFirstValueSaid : Prop := fnHasAfterAppendKeepsFirstValueRow.holds Trym.pinned (OpenSpec.ofChange fnHasAfterAppendKeepsFirstValueSpec)

/-- ITS FALSE NEIGHBOUR: 'it returns false'. Refute it at one input. -/
def fnHasAfterAppendKeepsFirstValueWrong : ChangeSpec := { name := "fnHasAfterAppendKeepsFirstValue", fn := fun _ => fun
  | [d1, d2, d3, d4] => { results := [.lit (.bool false)], args := [d1, d2, d3, d4] }
  | _ => none }
def FnHasAfterAppendKeepsFirstValueWrongFalsely : Prop := fnHasAfterAppendKeepsFirstValueRow.holds Trym.pinned (OpenSpec.ofChange fnHasAfterAppendKeepsFirstValueWrong)

/-- 'zzlaws_internal_fieldrules_b1.FnStringPatternIgnoresOtherRulesAndTakesFirstPattern': WHATEVER THE INPUT: true; the input reads as it did. -/
def fnStringPatternIgnoresOtherRulesAndTakesFirstPatternSpec : ChangeSpec := { name := "fnStringPatternIgnoresOtherRulesAndTakesFirstPattern", fn := fun _ => fun
  | [d1, d2, d3, d4, d5] => { results := [.lit (.bool true)], args := [d1, d2, d3, d4, d5] }
  | _ => none }
def fnStringPatternIgnoresOtherRulesAndTakesFirstPatternRow : OpenClaim := { program := "qxb6614247amods", sum := "72c22fd39a66cd2542a4ec98b42ce0e776601c76771dc0a57e002b64c8e37f94", func := "example.com/tidings/tidings/zzlaws_internal_fieldrules_b1.FnStringPatternIgnoresOtherRulesAndTakesFirstPattern", spec := "fnStringPatternIgnoresOtherRulesAndTakesFirstPattern", unfollowed := true, recurses := true, make := .lifted ["publicsums"], apart := false }
def FnStringPatternIgnoresOtherRulesAndTakesFirstPatternSaid : Prop := fnStringPatternIgnoresOtherRulesAndTakesFirstPatternRow.holds Trym.pinned (OpenSpec.ofChange fnStringPatternIgnoresOtherRulesAndTakesFirstPatternSpec)

/-- ITS FALSE NEIGHBOUR: 'it returns false'. Refute it at one input. -/
def fnStringPatternIgnoresOtherRulesAndTakesFirstPatternWrong : ChangeSpec := { name := "fnStringPatternIgnoresOtherRulesAndTakesFirstPattern", fn := fun _ => fun
  | [d1, d2, d3, d4, d5] => { results := [.lit (.bool false)], args := [d1, d2, d3, d4, d5] }
  | _ => none }
def FnStringPatternIgnoresOtherRulesAndTakesFirstPatternWrongFalsely : Prop := fnStringPatternIgnoresOtherRulesAndTakesFirstPatternRow.holds Trym.pinned (OpenSpec.ofChange fnStringPatternIgnoresOtherRulesAndTakesFirstPatternWrong)

end Rows
end Go.Proofs.Qxb6614247aMods

/-
  No cell of these rows narrows 'for every input' (looked for: loops, veiled, ifaces, maps, wideKeys, modest, calm, conditions, laid).
  DERIVED. THE GIVEN ROWS OF THIS SEAT. 2 by the template 'for every input the law returns true; each argument reads behind the call as it read before'; 0 by the template 'total and deterministic' (their statements: Qxb6614135aModsTotals.lean).
  GIVEN WITH THE SEED: the statements are not yours to turn. If you find one false, say at which input.
  Laid BY PROGRAM, IN A SANDBOX (cutbox-rows.mjs): the forced cells as the released guide's own fill.sh prints them over the translation 099c646ea808aeac… (all of the seat's roots in one cut). By AI agents, Wed Nov 11 2026. No macro, syntax, notation, axiom, sorry.
-/
import Derived.Test.Qxb6614135aModsChecked
import GoSem.Claim
import GoSem.ClaimJoined
import GoSem.ClaimMapViews
import Derived.JoinedTies
import Derived.KernelRfl
namespace Go.Proofs.Qxb6614135aMods
/- THE CELL 'sum', in the pinned program and in every row, IS THE sha256 OF THE DUMP (.gsa) THAT Qxb6614135aModsProg.lean LOADS. Nothing in Lean hashes anything: it is a label: what it is worth is what the hold of that sum in a sandbox is worth. -/
noncomputable def Trym.pinned : Pinned := { name := "qxb6614135amods", sum := "099c646ea808aeac8c32255f55536567cee4a285e264467afe07682ff227a90a", checked := Trym.checked }
namespace Rows
def none {H : Type} : Left H := { results := [], args := [] }

/-- 'zzlaws_internal_cluster_b1.FnSegmentsIsLeastCover': WHATEVER THE INPUT: true; the input reads as it did. -/
def fnSegmentsIsLeastCoverSpec : ChangeSpec := { name := "fnSegmentsIsLeastCover", fn := fun _ => fun
  | [d] => { results := [.lit (.bool true)], args := [d] }
  | _ => none }
def fnSegmentsIsLeastCoverRow : OpenClaim := { program := "qxb6614135amods", sum := "099c646ea808aeac8c32255f55536567cee4a285e264467afe07682ff227a90a", func := "example.com/cohort-store/cohort-store/zzlaws_internal_cluster_b1.FnSegmentsIsLeastCover", spec := "fnSegmentsIsLeastCover", make := .lifted ["publicsums"], apart := false }
def FnSegmentsIsLeastCoverSaid : Prop := fnSegmentsIsLeastCoverRow.holds Trym.pinned (OpenSpec.ofChange fnSegmentsIsLeastCoverSpec)

/-- ITS FALSE NEIGHBOUR: 'it returns false'. Refute it at one input. -/
def fnSegmentsIsLeastCoverWrong : ChangeSpec := { name := "fnSegmentsIsLeastCover", fn := fun _ => fun
  | [d] => { results := [.lit (.bool false)], args := [d] }
  | _ => none }
def FnSegmentsIsLeastCoverWrongFalsely : Prop := fnSegmentsIsLeastCoverRow.holds Trym.pinned (OpenSpec.ofChange fnSegmentsIsLeastCoverWrong)

/-- 'zzlaws_internal_cluster_b1.FnSegmentsShiftByWholeSegments': WHATEVER THE INPUT: true; the input reads as it did. -/
def fnSegmentsShiftByWholeSegmentsSpec : ChangeSpec := { name := "fnSegmentsShiftByWholeSegments", fn := fun _ => fun
  | [d1, d2] => { results := [.lit (.bool true)], args := [d1, d2] }
  | _ => none }
def fnSegmentsShiftByWholeSegmentsRow : OpenClaim := { program := "qxb6614135amods", sum := "099c646ea808aeac8c32255f55536567cee4a285e264467afe07682ff227a90a", func := "example.com/cohort-store/cohort-store/zzlaws_internal_cluster_b1.FnSegmentsShiftByWholeSegments", spec := "fnSegmentsShiftByWholeSegments", make := .lifted ["publicsums"], apart := false }
def FnSegmentsShiftByWholeSegmentsSaid : Prop := fnSegmentsShiftByWholeSegmentsRow.holds Trym.pinned (OpenSpec.ofChange fnSegmentsShiftByWholeSegmentsSpec)

/-- ITS FALSE NEIGHBOUR: 'it returns false'. Refute it at one input. -/
def fnSegmentsShiftByWholeSegmentsWrong : ChangeSpec := { name := "fnSegmentsShiftByWholeSegments", fn := fun _ => fun
  | [d1, d2] => { results := [.lit (.bool false)], args := [d1, d2] }
  | _ => none }
def FnSegmentsShiftByWholeSegmentsWrongFalsely : Prop := fnSegmentsShiftByWholeSegmentsRow.holds Trym.pinned (OpenSpec.ofChange fnSegmentsShiftByWholeSegmentsWrong)

end Rows
end Go.Proofs.Qxb6614135aMods

/-
  No cell of these rows narrows 'for every input' (looked for: loops, veiled, ifaces, maps, wideKeys, modest, calm, conditions, laid).
  DERIVED. THE GIVEN ROWS OF THIS SEAT. 4 by the template 'for every input the law returns true; each argument reads behind the call as it read before'; 0 by the template 'total and deterministic' (their statements: Qxb6613693aModsTotals.lean).
  GIVEN WITH THE SEED: the statements are not yours to turn. If you find one false, say at which input.
  Laid BY PROGRAM, IN A SANDBOX (cutbox-rows.mjs): the forced cells as the released guide's own fill.sh prints them over the translation 708dbfb0679e4f21… (all of the seat's roots in one cut). By AI agents, Wed Nov 11 2026. No macro, syntax, notation, axiom, sorry.
-/
import Derived.Test.Qxb6613693aModsChecked
import GoSem.Claim
import GoSem.ClaimJoined
import GoSem.ClaimMapViews
import Derived.JoinedTies
import Derived.KernelRfl
namespace Go.Proofs.Qxb6613693aMods
/- THE CELL 'sum', in the pinned program and in every row, IS THE sha256 OF THE DUMP (.gsa) THAT Qxb6613693aModsProg.lean LOADS. Nothing in Lean hashes anything: it is a label: what it is worth is what the hold of that sum in a sandbox is worth. -/
noncomputable def Trym.pinned : Pinned := { name := "qxb6613693amods", sum := "708dbfb0679e4f21e0fb3b98cc33cbf534a7076b46ddc698ab135a8bc96842a7", checked := Trym.checked }
namespace Rows
def none {H : Type} : Left H := { results := [], args := [] }

/-- 'zzlaws_pkg_resource_b1.FnIsResourceFileCutKeepingTheDot': WHATEVER THE INPUT: true; the input reads as it did. -/
def fnIsResourceFileCutKeepingTheDotSpec : ChangeSpec := { name := "fnIsResourceFileCutKeepingTheDot", fn := fun _ => fun
  | [d1, d2] => { results := [.lit (.bool true)], args := [d1, d2] }
  | _ => none }
def fnIsResourceFileCutKeepingTheDotRow : OpenClaim := { program := "qxb6613693amods", sum := "708dbfb0679e4f21e0fb3b98cc33cbf534a7076b46ddc698ab135a8bc96842a7", func := "example.com/hostloom/hostloom/zzlaws_pkg_resource_b1.FnIsResourceFileCutKeepingTheDot", spec := "fnIsResourceFileCutKeepingTheDot", make := .lifted ["publicsums"], apart := false }
def FnIsResourceFileCutKeepingTheDotSaid : Prop := fnIsResourceFileCutKeepingTheDotRow.holds Trym.pinned (OpenSpec.ofChange fnIsResourceFileCutKeepingTheDotSpec)

/-- ITS FALSE NEIGHBOUR: 'it returns false'. Refute it at one input. -/
def fnIsResourceFileCutKeepingTheDotWrong : ChangeSpec := { name := "fnIsResourceFileCutKeepingTheDot", fn := fun _ => fun
  | [d1, d2] => { results := [.lit (.bool false)], args := [d1, d2] }
  | _ => none }
def FnIsResourceFileCutKeepingTheDotWrongFalsely : Prop := fnIsResourceFileCutKeepingTheDotRow.holds Trym.pinned (OpenSpec.ofChange fnIsResourceFileCutKeepingTheDotWrong)

/-- 'zzlaws_pkg_resource_b1.FnIsResourceFileNothingBehindTheExtension': WHATEVER THE INPUT: true; the input reads as it did. -/
def fnIsResourceFileNothingBehindTheExtensionSpec : ChangeSpec := { name := "fnIsResourceFileNothingBehindTheExtension", fn := fun _ => fun
  | [d1, d2] => { results := [.lit (.bool true)], args := [d1, d2] }
  | _ => none }
def fnIsResourceFileNothingBehindTheExtensionRow : OpenClaim := { program := "qxb6613693amods", sum := "708dbfb0679e4f21e0fb3b98cc33cbf534a7076b46ddc698ab135a8bc96842a7", func := "example.com/hostloom/hostloom/zzlaws_pkg_resource_b1.FnIsResourceFileNothingBehindTheExtension", spec := "fnIsResourceFileNothingBehindTheExtension", make := .lifted ["publicsums"], apart := false }
def FnIsResourceFileNothingBehindTheExtensionSaid : Prop := fnIsResourceFileNothingBehindTheExtensionRow.holds Trym.pinned (OpenSpec.ofChange fnIsResourceFileNothingBehindTheExtensionSpec)

/-- ITS FALSE NEIGHBOUR: 'it returns false'. Refute it at one input. -/
def fnIsResourceFileNothingBehindTheExtensionWrong : ChangeSpec := { name := "fnIsResourceFileNothingBehindTheExtension", fn := fun _ => fun
  | [d1, d2] => { results := [.lit (.bool false)], args := [d1, d2] }
  | _ => none }
def FnIsResourceFileNothingBehindTheExtensionWrongFalsely : Prop := fnIsResourceFileNothingBehindTheExtensionRow.holds Trym.pinned (OpenSpec.ofChange fnIsResourceFileNothingBehindTheExtensionWrong)

/-- 'zzlaws_pkg_resource_b1.FnAtPeeksWhatTakeReads': WHATEVER THE INPUT: true; the input reads as it did. -/
def fnAtPeeksWhatTakeReadsSpec : ChangeSpec := { name := "fnAtPeeksWhatTakeReads", fn := fun _ => fun
  | [d1, d2, d3] => { results := [.lit (.bool true)], args := [d1, d2, d3] }
  | _ => none }
def fnAtPeeksWhatTakeReadsRow : OpenClaim := { program := "qxb6613693amods", sum := "708dbfb0679e4f21e0fb3b98cc33cbf534a7076b46ddc698ab135a8bc96842a7", func := "example.com/hostloom/hostloom/zzlaws_pkg_resource_b1.FnAtPeeksWhatTakeReads", spec := "fnAtPeeksWhatTakeReads", unfollowed := true, recurses := true, make := .lifted ["publicsums"], apart := false }
def FnAtPeeksWhatTakeReadsSaid : Prop := fnAtPeeksWhatTakeReadsRow.holds Trym.pinned (OpenSpec.ofChange fnAtPeeksWhatTakeReadsSpec)

/-- ITS FALSE NEIGHBOUR: 'it returns false'. Refute it at one input. -/
def fnAtPeeksWhatTakeReadsWrong : ChangeSpec := { name := "fnAtPeeksWhatTakeReads", fn := fun _ => fun
  | [d1, d2, d3] => { results := [.lit (.bool false)], args := [d1, d2, d3] }
  | _ => none }
def FnAtPeeksWhatTakeReadsWrongFalsely : Prop := fnAtPeeksWhatTakeReadsRow.holds Trym.pinned (OpenSpec.ofChange fnAtPeeksWhatTakeReadsWrong)

/-- 'zzlaws_pkg_resource_b1.FnAtAfterExpect': WHATEVER THE INPUT: true; the input reads as it did. -/
def fnAtAfterExpectSpec : ChangeSpec := { name := "fnAtAfterExpect", fn := fun _ => fun
  | [d1, d2, d3] => { results := [.lit (.bool true)], args := [d1, d2, d3] }
  | _ => none }
def fnAtAfterExpectRow : OpenClaim := { program := "qxb6613693amods", sum := "708dbfb0679e4f21e0fb3b98cc33cbf534a7076b46ddc698ab135a8bc96842a7", func := "example.com/hostloom/hostloom/zzlaws_pkg_resource_b1.FnAtAfterExpect", spec := "fnAtAfterExpect", unfollowed := true, recurses := true, make := .lifted ["publicsums"], apart := false }
def FnAtAfterExpectSaid : Prop := fnAtAfterExpectRow.holds Trym.pinned (OpenSpec.ofChange fnAtAfterExpectSpec)

/-- ITS FALSE NEIGHBOUR: 'it returns false'. Refute it at one input. -/
def fnAtAfterExpectWrong : ChangeSpec := { name := "fnAtAfterExpect", fn := fun _ => fun
  | [d1, d2, d3] => { results := [.lit (.bool false)], args := [d1, d2, d3] }
  | _ => none }
def FnAtAfterExpectWrongFalsely : Prop := fnAtAfterExpectRow.holds Trym.pinned (OpenSpec.ofChange fnAtAfterExpectWrong)

end Rows
end Go.Proofs.Qxb6613693aMods

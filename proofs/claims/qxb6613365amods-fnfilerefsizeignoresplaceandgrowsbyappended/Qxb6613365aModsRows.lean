/-
  No cell of these rows narrows 'for every input' (looked for: loops, veiled, ifaces, maps, wideKeys, modest, calm, conditions, laid).
  DERIVED. THE GIVEN ROWS OF THIS SEAT. 2 by the template 'for every input the law returns true; each argument reads behind the call as it read before'; 0 by the template 'total and deterministic' (their statements: Qxb6613365aModsTotals.lean).
  GIVEN WITH THE SEED: the statements are not yours to turn. If you find one false, say at which input.
  Laid BY PROGRAM, IN A SANDBOX (cutbox-rows.mjs): the forced cells as the released guide's own fill.sh prints them over the translation 4b5fcc947f670398… (all of the seat's roots in one cut). By AI agents, Wed Nov 11 2026. No macro, syntax, notation, axiom, sorry.
-/
import Derived.Test.Qxb6613365aModsChecked
import GoSem.Claim
import GoSem.ClaimJoined
import GoSem.ClaimMapViews
import Derived.JoinedTies
import Derived.KernelRfl
namespace Go.Proofs.Qxb6613365aMods
/- THE CELL 'sum', in the pinned program and in every row, IS THE sha256 OF THE DUMP (.gsa) THAT Qxb6613365aModsProg.lean LOADS. Nothing in Lean hashes anything: it is a label: what it is worth is what the hold of that sum in a sandbox is worth. -/
noncomputable def Trym.pinned : Pinned := { name := "qxb6613365amods", sum := "4b5fcc947f670398c25828e39a37e8dab9a721e16ef588ed05ef9052329bbf05", checked := Trym.checked }
namespace Rows
def none {H : Type} : Left H := { results := [], args := [] }

/-- 'zzlaws_internal_store_b1.FnFileRefSizeCountsEveryStringByteWherever': WHATEVER THE INPUT: true; the input reads as it did. -/
def fnFileRefSizeCountsEveryStringByteWhereverSpec : ChangeSpec := { name := "fnFileRefSizeCountsEveryStringByteWherever", fn := fun _ => fun
  | [d1, d2, d3, d4, d5, d6, d7] => { results := [.lit (.bool true)], args := [d1, d2, d3, d4, d5, d6, d7] }
  | _ => none }
def fnFileRefSizeCountsEveryStringByteWhereverRow : OpenClaim := { program := "qxb6613365amods", sum := "4b5fcc947f670398c25828e39a37e8dab9a721e16ef588ed05ef9052329bbf05", func := "example.com/testament/testament/zzlaws_internal_store_b1.FnFileRefSizeCountsEveryStringByteWherever", spec := "fnFileRefSizeCountsEveryStringByteWherever", make := .lifted ["publicsums"], apart := false }
def FnFileRefSizeCountsEveryStringByteWhereverSaid : Prop := fnFileRefSizeCountsEveryStringByteWhereverRow.holds Trym.pinned (OpenSpec.ofChange fnFileRefSizeCountsEveryStringByteWhereverSpec)

/-- ITS FALSE NEIGHBOUR: 'it returns false'. Refute it at one input. -/
def fnFileRefSizeCountsEveryStringByteWhereverWrong : ChangeSpec := { name := "fnFileRefSizeCountsEveryStringByteWherever", fn := fun _ => fun
  | [d1, d2, d3, d4, d5, d6, d7] => { results := [.lit (.bool false)], args := [d1, d2, d3, d4, d5, d6, d7] }
  | _ => none }
def FnFileRefSizeCountsEveryStringByteWhereverWrongFalsely : Prop := fnFileRefSizeCountsEveryStringByteWhereverRow.holds Trym.pinned (OpenSpec.ofChange fnFileRefSizeCountsEveryStringByteWhereverWrong)

/-- 'zzlaws_internal_store_b1.FnFileRefSizeIgnoresPlaceAndGrowsByAppended': WHATEVER THE INPUT: true; the input reads as it did. -/
def fnFileRefSizeIgnoresPlaceAndGrowsByAppendedSpec : ChangeSpec := { name := "fnFileRefSizeIgnoresPlaceAndGrowsByAppended", fn := fun _ => fun
  | [d1, d2, d3, d4, d5, d6, d7, d8, d9, d10] => { results := [.lit (.bool true)], args := [d1, d2, d3, d4, d5, d6, d7, d8, d9, d10] }
  | _ => none }
def fnFileRefSizeIgnoresPlaceAndGrowsByAppendedRow : OpenClaim := { program := "qxb6613365amods", sum := "4b5fcc947f670398c25828e39a37e8dab9a721e16ef588ed05ef9052329bbf05", func := "example.com/testament/testament/zzlaws_internal_store_b1.FnFileRefSizeIgnoresPlaceAndGrowsByAppended", spec := "fnFileRefSizeIgnoresPlaceAndGrowsByAppended", make := .lifted ["publicsums"], apart := false }
def FnFileRefSizeIgnoresPlaceAndGrowsByAppendedSaid : Prop := fnFileRefSizeIgnoresPlaceAndGrowsByAppendedRow.holds Trym.pinned (OpenSpec.ofChange fnFileRefSizeIgnoresPlaceAndGrowsByAppendedSpec)

/-- ITS FALSE NEIGHBOUR: 'it returns false'. Refute it at one input. -/
def fnFileRefSizeIgnoresPlaceAndGrowsByAppendedWrong : ChangeSpec := { name := "fnFileRefSizeIgnoresPlaceAndGrowsByAppended", fn := fun _ => fun
  | [d1, d2, d3, d4, d5, d6, d7, d8, d9, d10] => { results := [.lit (.bool false)], args := [d1, d2, d3, d4, d5, d6, d7, d8, d9, d10] }
  | _ => none }
def FnFileRefSizeIgnoresPlaceAndGrowsByAppendedWrongFalsely : Prop := fnFileRefSizeIgnoresPlaceAndGrowsByAppendedRow.holds Trym.pinned (OpenSpec.ofChange fnFileRefSizeIgnoresPlaceAndGrowsByAppendedWrong)

end Rows
end Go.Proofs.Qxb6613365aMods

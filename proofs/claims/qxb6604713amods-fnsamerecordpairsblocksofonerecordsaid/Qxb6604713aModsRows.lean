/-
  No cell of these rows narrows 'for every input' (looked for: loops, veiled, ifaces, maps, wideKeys, modest, calm, conditions, laid).
  DERIVED. THE GIVEN ROWS OF THIS SEAT. 4 by the template 'for every input the law returns true; each argument reads behind the call as it read before'; 0 by the template 'total and deterministic' (their statements: Qxb6604713aModsTotals.lean).
  GIVEN WITH THE SEED: the statements are not yours to turn. If you find one false, say at which input.
  Laid BY PROGRAM, IN A SANDBOX (cutbox-rows.mjs): the forced cells as the released guide's own fill.sh prints them over the translation 1f065228b2a0feac… (all of the seat's roots in one cut). By AI agents, Wed Nov 11 2026. No macro, syntax, notation, axiom, sorry.
-/
import Derived.Test.Qxb6604713aModsChecked
import GoSem.Claim
import GoSem.ClaimJoined
import GoSem.ClaimMapViews
import Derived.JoinedTies
import Derived.KernelRfl
namespace Go.Proofs.Qxb6604713aMods
/- THE CELL 'sum', in the pinned program and in every row, IS THE sha256 OF THE DUMP (.gsa) THAT Qxb6604713aModsProg.lean LOADS. Nothing in Lean hashes anything: it is a label: what it is worth is what the hold of that sum in a sandbox is worth. -/
noncomputable def Trym.pinned : Pinned := { name := "qxb6604713amods", sum := "1f065228b2a0feac82f5f96f7e17c245023640f0a06f35b4a37f9f91c9708ce8", checked := Trym.checked }
namespace Rows
def none {H : Type} : Left H := { results := [], args := [] }

/-- 'zzlaws_internal_store_b1.FnBitsForClosedForm': WHATEVER THE INPUT: true; the input reads as it did. -/
def fnBitsForClosedFormSpec : ChangeSpec := { name := "fnBitsForClosedForm", fn := fun _ => fun
  | [d] => { results := [.lit (.bool true)], args := [d] }
  | _ => none }
def fnBitsForClosedFormRow : OpenClaim := { program := "qxb6604713amods", sum := "1f065228b2a0feac82f5f96f7e17c245023640f0a06f35b4a37f9f91c9708ce8", func := "example.com/lithic/lithic/zzlaws_internal_store_b1.FnBitsForClosedForm", spec := "fnBitsForClosedForm", make := .lifted ["publicsums"], apart := false }
def FnBitsForClosedFormSaid : Prop := fnBitsForClosedFormRow.holds Trym.pinned (OpenSpec.ofChange fnBitsForClosedFormSpec)

/-- ITS FALSE NEIGHBOUR: 'it returns false'. Refute it at one input. -/
def fnBitsForClosedFormWrong : ChangeSpec := { name := "fnBitsForClosedForm", fn := fun _ => fun
  | [d] => { results := [.lit (.bool false)], args := [d] }
  | _ => none }
def FnBitsForClosedFormWrongFalsely : Prop := fnBitsForClosedFormRow.holds Trym.pinned (OpenSpec.ofChange fnBitsForClosedFormWrong)

/-- 'zzlaws_internal_store_b1.FnBitsForLeastCoveringTable': WHATEVER THE INPUT: true; the input reads as it did. -/
def fnBitsForLeastCoveringTableSpec : ChangeSpec := { name := "fnBitsForLeastCoveringTable", fn := fun _ => fun
  | [d] => { results := [.lit (.bool true)], args := [d] }
  | _ => none }
def fnBitsForLeastCoveringTableRow : OpenClaim := { program := "qxb6604713amods", sum := "1f065228b2a0feac82f5f96f7e17c245023640f0a06f35b4a37f9f91c9708ce8", func := "example.com/lithic/lithic/zzlaws_internal_store_b1.FnBitsForLeastCoveringTable", spec := "fnBitsForLeastCoveringTable", make := .lifted ["publicsums"], apart := false }
def FnBitsForLeastCoveringTableSaid : Prop := fnBitsForLeastCoveringTableRow.holds Trym.pinned (OpenSpec.ofChange fnBitsForLeastCoveringTableSpec)

/-- ITS FALSE NEIGHBOUR: 'it returns false'. Refute it at one input. -/
def fnBitsForLeastCoveringTableWrong : ChangeSpec := { name := "fnBitsForLeastCoveringTable", fn := fun _ => fun
  | [d] => { results := [.lit (.bool false)], args := [d] }
  | _ => none }
def FnBitsForLeastCoveringTableWrongFalsely : Prop := fnBitsForLeastCoveringTableRow.holds Trym.pinned (OpenSpec.ofChange fnBitsForLeastCoveringTableWrong)

/-- 'zzlaws_internal_store_b1.FnSameRecordIsPartialEquivalence': WHATEVER THE INPUT: true; the input reads as it did. -/
def fnSameRecordIsPartialEquivalenceSpec : ChangeSpec := { name := "fnSameRecordIsPartialEquivalence", fn := fun _ => fun
  | [d1, d2, d3] => { results := [.lit (.bool true)], args := [d1, d2, d3] }
  | _ => none }
def fnSameRecordIsPartialEquivalenceRow : OpenClaim := { program := "qxb6604713amods", sum := "1f065228b2a0feac82f5f96f7e17c245023640f0a06f35b4a37f9f91c9708ce8", func := "example.com/lithic/lithic/zzlaws_internal_store_b1.FnSameRecordIsPartialEquivalence", spec := "fnSameRecordIsPartialEquivalence", make := .lifted ["publicsums"], apart := false }
def FnSameRecordIsPartialEquivalenceSaid : Prop := fnSameRecordIsPartialEquivalenceRow.holds Trym.pinned (OpenSpec.ofChange fnSameRecordIsPartialEquivalenceSpec)

/-- ITS FALSE NEIGHBOUR: 'it returns false'. Refute it at one input. -/
def fnSameRecordIsPartialEquivalenceWrong : ChangeSpec := { name := "fnSameRecordIsPartialEquivalence", fn := fun _ => fun
  | [d1, d2, d3] => { results := [.lit (.bool false)], args := [d1, d2, d3] }
  | _ => none }
def FnSameRecordIsPartialEquivalenceWrongFalsely : Prop := fnSameRecordIsPartialEquivalenceRow.holds Trym.pinned (OpenSpec.ofChange fnSameRecordIsPartialEquivalenceWrong)

/-- 'zzlaws_internal_store_b1.FnSameRecordPairsBlocksOfOneRecord': WHATEVER THE INPUT: true; the input reads as it did. -/
def fnSameRecordPairsBlocksOfOneRecordSpec : ChangeSpec := { name := "fnSameRecordPairsBlocksOfOneRecord", fn := fun _ => fun
  | [d1, d2] => { results := [.lit (.bool true)], args := [d1, d2] }
  | _ => none }
def fnSameRecordPairsBlocksOfOneRecordRow : OpenClaim := { program := "qxb6604713amods", sum := "1f065228b2a0feac82f5f96f7e17c245023640f0a06f35b4a37f9f91c9708ce8", func := "example.com/lithic/lithic/zzlaws_internal_store_b1.FnSameRecordPairsBlocksOfOneRecord", spec := "fnSameRecordPairsBlocksOfOneRecord", make := .lifted ["publicsums"], apart := false }
def FnSameRecordPairsBlocksOfOneRecordSaid : Prop := fnSameRecordPairsBlocksOfOneRecordRow.holds Trym.pinned (OpenSpec.ofChange fnSameRecordPairsBlocksOfOneRecordSpec)

/-- ITS FALSE NEIGHBOUR: 'it returns false'. Refute it at one input. -/
def fnSameRecordPairsBlocksOfOneRecordWrong : ChangeSpec := { name := "fnSameRecordPairsBlocksOfOneRecord", fn := fun _ => fun
  | [d1, d2] => { results := [.lit (.bool false)], args := [d1, d2] }
  | _ => none }
def FnSameRecordPairsBlocksOfOneRecordWrongFalsely : Prop := fnSameRecordPairsBlocksOfOneRecordRow.holds Trym.pinned (OpenSpec.ofChange fnSameRecordPairsBlocksOfOneRecordWrong)

end Rows
end Go.Proofs.Qxb6604713aMods

/-
  No cell of these rows narrows 'for every input' (looked for: loops, veiled, ifaces, maps, wideKeys, modest, calm, conditions, laid).
  DERIVED. THE GIVEN ROWS OF THIS SEAT. 4 by the template 'for every input the law returns true; each argument reads behind the call as it read before'; 0 by the template 'total and deterministic' (their statements: Qxb6604705aModsTotals.lean).
  GIVEN WITH THE SEED: the statements are not yours to turn. If you find one false, say at which input.
  Laid BY PROGRAM, IN A SANDBOX (cutbox-rows.mjs): the forced cells as the released guide's own fill.sh prints them over the translation f17b2aabbd30f627… (all of the seat's roots in one cut). By AI agents, Wed Nov 11 2026. No macro, syntax, notation, axiom, sorry.
-/
import Derived.Test.Qxb6604705aModsChecked
import GoSem.Claim
import GoSem.ClaimJoined
import GoSem.ClaimMapViews
import Derived.JoinedTies
import Derived.KernelRfl
namespace Go.Proofs.Qxb6604705aMods
/- THE CELL 'sum', in the pinned program and in every row, IS THE sha256 OF THE DUMP (.gsa) THAT Qxb6604705aModsProg.lean LOADS. Nothing in Lean hashes anything: it is a label: what it is worth is what the hold of that sum in a sandbox is worth. -/
noncomputable def Trym.pinned : Pinned := { name := "qxb6604705amods", sum := "f17b2aabbd30f62777427c1090d3e19eacd114fff34d74c5ef4616d5d3f36fb5", checked := Trym.checked }
namespace Rows
def none {H : Type} : Left H := { results := [], args := [] }

/-- 'zzlaws_root_b1.FnEncodeHeaderDecodesBack': WHATEVER THE INPUT: true; the input reads as it did. -/
def fnEncodeHeaderDecodesBackSpec : ChangeSpec := { name := "fnEncodeHeaderDecodesBack", fn := fun _ => fun
  | [d1, d2] => { results := [.lit (.bool true)], args := [d1, d2] }
  | _ => none }
def fnEncodeHeaderDecodesBackRow : OpenClaim := { program := "qxb6604705amods", sum := "f17b2aabbd30f62777427c1090d3e19eacd114fff34d74c5ef4616d5d3f36fb5", func := "example.com/onceward/onceward/zzlaws_root_b1.FnEncodeHeaderDecodesBack", spec := "fnEncodeHeaderDecodesBack", make := .lifted ["publicsums"], apart := false }
def FnEncodeHeaderDecodesBackSaid : Prop := fnEncodeHeaderDecodesBackRow.holds Trym.pinned (OpenSpec.ofChange fnEncodeHeaderDecodesBackSpec)

/-- ITS FALSE NEIGHBOUR: 'it returns false'. Refute it at one input. -/
def fnEncodeHeaderDecodesBackWrong : ChangeSpec := { name := "fnEncodeHeaderDecodesBack", fn := fun _ => fun
  | [d1, d2] => { results := [.lit (.bool false)], args := [d1, d2] }
  | _ => none }
def FnEncodeHeaderDecodesBackWrongFalsely : Prop := fnEncodeHeaderDecodesBackRow.holds Trym.pinned (OpenSpec.ofChange fnEncodeHeaderDecodesBackWrong)

/-- 'zzlaws_root_b1.FnEncodeHeaderSize': WHATEVER THE INPUT: true; the input reads as it did. -/
def fnEncodeHeaderSizeSpec : ChangeSpec := { name := "fnEncodeHeaderSize", fn := fun _ => fun
  | [d1, d2] => { results := [.lit (.bool true)], args := [d1, d2] }
  | _ => none }
def fnEncodeHeaderSizeRow : OpenClaim := { program := "qxb6604705amods", sum := "f17b2aabbd30f62777427c1090d3e19eacd114fff34d74c5ef4616d5d3f36fb5", func := "example.com/onceward/onceward/zzlaws_root_b1.FnEncodeHeaderSize", spec := "fnEncodeHeaderSize", make := .lifted ["publicsums"], apart := false }
def FnEncodeHeaderSizeSaid : Prop := fnEncodeHeaderSizeRow.holds Trym.pinned (OpenSpec.ofChange fnEncodeHeaderSizeSpec)

/-- ITS FALSE NEIGHBOUR: 'it returns false'. Refute it at one input. -/
def fnEncodeHeaderSizeWrong : ChangeSpec := { name := "fnEncodeHeaderSize", fn := fun _ => fun
  | [d1, d2] => { results := [.lit (.bool false)], args := [d1, d2] }
  | _ => none }
def FnEncodeHeaderSizeWrongFalsely : Prop := fnEncodeHeaderSizeRow.holds Trym.pinned (OpenSpec.ofChange fnEncodeHeaderSizeWrong)

/-- 'zzlaws_root_b1.FnFingerprintSetsItAlone': WHATEVER THE INPUT: true; the input reads as it did. -/
def fnFingerprintSetsItAloneSpec : ChangeSpec := { name := "fnFingerprintSetsItAlone", fn := fun _ => fun
  | [d1, d2, d3, d4, d5, d6, d7] => { results := [.lit (.bool true)], args := [d1, d2, d3, d4, d5, d6, d7] }
  | _ => none }
def fnFingerprintSetsItAloneRow : OpenClaim := { program := "qxb6604705amods", sum := "f17b2aabbd30f62777427c1090d3e19eacd114fff34d74c5ef4616d5d3f36fb5", func := "example.com/onceward/onceward/zzlaws_root_b1.FnFingerprintSetsItAlone", spec := "fnFingerprintSetsItAlone", unfollowed := true, recurses := true, make := .lifted ["publicsums"], apart := false }
def FnFingerprintSetsItAloneSaid : Prop := fnFingerprintSetsItAloneRow.holds Trym.pinned (OpenSpec.ofChange fnFingerprintSetsItAloneSpec)

/-- ITS FALSE NEIGHBOUR: 'it returns false'. Refute it at one input. -/
def fnFingerprintSetsItAloneWrong : ChangeSpec := { name := "fnFingerprintSetsItAlone", fn := fun _ => fun
  | [d1, d2, d3, d4, d5, d6, d7] => { results := [.lit (.bool false)], args := [d1, d2, d3, d4, d5, d6, d7] }
  | _ => none }
def FnFingerprintSetsItAloneWrongFalsely : Prop := fnFingerprintSetsItAloneRow.holds Trym.pinned (OpenSpec.ofChange fnFingerprintSetsItAloneWrong)

/-- 'zzlaws_root_b1.FnFingerprintLastWins': WHATEVER THE INPUT: true; the input reads as it did. -/
def fnFingerprintLastWinsSpec : ChangeSpec := { name := "fnFingerprintLastWins", fn := fun _ => fun
  | [d1, d2, d3, d4, d5, d6, d7, d8] => { results := [.lit (.bool true)], args := [d1, d2, d3, d4, d5, d6, d7, d8] }
  | _ => none }
def fnFingerprintLastWinsRow : OpenClaim := { program := "qxb6604705amods", sum := "f17b2aabbd30f62777427c1090d3e19eacd114fff34d74c5ef4616d5d3f36fb5", func := "example.com/onceward/onceward/zzlaws_root_b1.FnFingerprintLastWins", spec := "fnFingerprintLastWins", unfollowed := true, recurses := true, make := .lifted ["publicsums"], apart := false }
def FnFingerprintLastWinsSaid : Prop := fnFingerprintLastWinsRow.holds Trym.pinned (OpenSpec.ofChange fnFingerprintLastWinsSpec)

/-- ITS FALSE NEIGHBOUR: 'it returns false'. Refute it at one input. -/
def fnFingerprintLastWinsWrong : ChangeSpec := { name := "fnFingerprintLastWins", fn := fun _ => fun
  | [d1, d2, d3, d4, d5, d6, d7, d8] => { results := [.lit (.bool false)], args := [d1, d2, d3, d4, d5, d6, d7, d8] }
  | _ => none }
def FnFingerprintLastWinsWrongFalsely : Prop := fnFingerprintLastWinsRow.holds Trym.pinned (OpenSpec.ofChange fnFingerprintLastWinsWrong)

end Rows
end Go.Proofs.Qxb6604705aMods

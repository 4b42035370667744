/-
  No cell of these rows narrows 'for every input' (looked for: loops, veiled, ifaces, maps, wideKeys, modest, calm, conditions, laid).
  DERIVED. THE GIVEN ROWS OF THIS SEAT. 2 by the template 'for every input the law returns true; each argument reads behind the call as it read before'; 0 by the template 'total and deterministic' (their statements: Qxb6604602aModsTotals.lean).
  GIVEN WITH THE SEED: the statements are not yours to turn. If you find one false, say at which input.
  Laid BY PROGRAM, IN A SANDBOX (cutbox-rows.mjs): the forced cells as the released guide's own fill.sh prints them over the translation 7c39594c31abf235… (all of the seat's roots in one cut). By AI agents, Wed Nov 11 2026. No macro, syntax, notation, axiom, sorry.
-/
import Derived.Test.Qxb6604602aModsChecked
import GoSem.Claim
import GoSem.ClaimJoined
import GoSem.ClaimMapViews
import Derived.JoinedTies
import Derived.KernelRfl
namespace Go.Proofs.Qxb6604602aMods
/- THE CELL 'sum', in the pinned program and in every row, IS THE sha256 OF THE DUMP (.gsa) THAT Qxb6604602aModsProg.lean LOADS. Nothing in Lean hashes anything: it is a label: what it is worth is what the hold of that sum in a sandbox is worth. -/
noncomputable def Trym.pinned : Pinned := { name := "qxb6604602amods", sum := "7c39594c31abf2351ef6d1d0bb3dc482bb2095ab8b284460a7841637e1ffd0df", checked := Trym.checked }
namespace Rows
def none {H : Type} : Left H := { results := [], args := [] }

/-- 'zzlaws_pkg_ingest_b1.FnFilledMatchesMinMax': WHATEVER THE INPUT: true; the input reads as it did. -/
def fnFilledMatchesMinMaxSpec : ChangeSpec := { name := "fnFilledMatchesMinMax", fn := fun _ => fun
  | [d1, d2] => { results := [.lit (.bool true)], args := [d1, d2] }
  | _ => none }
def fnFilledMatchesMinMaxRow : OpenClaim := { program := "qxb6604602amods", sum := "7c39594c31abf2351ef6d1d0bb3dc482bb2095ab8b284460a7841637e1ffd0df", func := "example.com/epochmint/epochmint/zzlaws_pkg_ingest_b1.FnFilledMatchesMinMax", spec := "fnFilledMatchesMinMax", make := .lifted ["publicsums"], apart := false }
def FnFilledMatchesMinMaxSaid : Prop := fnFilledMatchesMinMaxRow.holds Trym.pinned (OpenSpec.ofChange fnFilledMatchesMinMaxSpec)

/-- ITS FALSE NEIGHBOUR: 'it returns false'. Refute it at one input. -/
def fnFilledMatchesMinMaxWrong : ChangeSpec := { name := "fnFilledMatchesMinMax", fn := fun _ => fun
  | [d1, d2] => { results := [.lit (.bool false)], args := [d1, d2] }
  | _ => none }
def FnFilledMatchesMinMaxWrongFalsely : Prop := fnFilledMatchesMinMaxRow.holds Trym.pinned (OpenSpec.ofChange fnFilledMatchesMinMaxWrong)

/-- 'zzlaws_pkg_ingest_b1.FnFilledSplitsAsConjunction': WHATEVER THE INPUT: true; the input reads as it did. -/
def fnFilledSplitsAsConjunctionSpec : ChangeSpec := { name := "fnFilledSplitsAsConjunction", fn := fun _ => fun
  | [d1, d2, d3] => { results := [.lit (.bool true)], args := [d1, d2, d3] }
  | _ => none }
def fnFilledSplitsAsConjunctionRow : OpenClaim := { program := "qxb6604602amods", sum := "7c39594c31abf2351ef6d1d0bb3dc482bb2095ab8b284460a7841637e1ffd0df", func := "example.com/epochmint/epochmint/zzlaws_pkg_ingest_b1.FnFilledSplitsAsConjunction", spec := "fnFilledSplitsAsConjunction", make := .lifted ["publicsums"], apart := false }
def FnFilledSplitsAsConjunctionSaid : Prop := fnFilledSplitsAsConjunctionRow.holds Trym.pinned (OpenSpec.ofChange fnFilledSplitsAsConjunctionSpec)

/-- ITS FALSE NEIGHBOUR: 'it returns false'. Refute it at one input. -/
def fnFilledSplitsAsConjunctionWrong : ChangeSpec := { name := "fnFilledSplitsAsConjunction", fn := fun _ => fun
  | [d1, d2, d3] => { results := [.lit (.bool false)], args := [d1, d2, d3] }
  | _ => none }
def FnFilledSplitsAsConjunctionWrongFalsely : Prop := fnFilledSplitsAsConjunctionRow.holds Trym.pinned (OpenSpec.ofChange fnFilledSplitsAsConjunctionWrong)

end Rows
end Go.Proofs.Qxb6604602aMods

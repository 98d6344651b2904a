/-
  No cell of these rows narrows 'for every input' (looked for: loops, veiled, ifaces, maps, wideKeys, modest, calm, conditions, laid).
  DERIVED. THE GIVEN ROWS OF THIS SEAT. 1 by the template 'for every input the law returns true; each argument reads behind the call as it read before'; 0 by the template 'total and deterministic' (their statements: Qxb6603804aModsTotals.lean).
  GIVEN WITH THE SEED: the statements are not yours to turn. If you find one false, say at which input.
  Laid BY PROGRAM, IN A SANDBOX (cutbox-rows.mjs): the forced cells as the released guide's own fill.sh prints them over the translation 9c3fc641d341f021… (all of the seat's roots in one cut). By AI agents, Wed Nov 11 2026. No macro, syntax, notation, axiom, sorry.
-/
import Derived.Test.Qxb6603804aModsChecked
import GoSem.Claim
import GoSem.ClaimJoined
import GoSem.ClaimMapViews
import Derived.JoinedTies
import Derived.KernelRfl
namespace Go.Proofs.Qxb6603804aMods
/- THE CELL 'sum', in the pinned program and in every row, IS THE sha256 OF THE DUMP (.gsa) THAT Qxb6603804aModsProg.lean LOADS. Nothing in Lean hashes anything: it is a label: what it is worth is what the hold of that sum in a sandbox is worth. -/
noncomputable def Trym.pinned : Pinned := { name := "qxb6603804amods", sum := "9c3fc641d341f021598a2ed190d3e4281f8d9c5752126beed66d9ff62c2773cd", checked := Trym.checked }
namespace Rows
def none {H : Type} : Left H := { results := [], args := [] }

/-- 'zzlaws_internal_yamltext_b1.FnIsPrintableMatchesYAMLTable': WHATEVER THE INPUT: true; the input reads as it did. -/
def fnIsPrintableMatchesYAMLTableSpec : ChangeSpec := { name := "fnIsPrintableMatchesYAMLTable", fn := fun _ => fun
  | [d] => { results := [.lit (.bool true)], args := [d] }
  | _ => none }
def fnIsPrintableMatchesYAMLTableRow : OpenClaim := { program := "qxb6603804amods", sum := "9c3fc641d341f021598a2ed190d3e4281f8d9c5752126beed66d9ff62c2773cd", func := "example.com/ithuriel/ithuriel/zzlaws_internal_yamltext_b1.FnIsPrintableMatchesYAMLTable", spec := "fnIsPrintableMatchesYAMLTable", make := .lifted ["publicsums"], apart := false }
def FnIsPrintableMatchesYAMLTableSaid : Prop := fnIsPrintableMatchesYAMLTableRow.holds Trym.pinned (OpenSpec.ofChange fnIsPrintableMatchesYAMLTableSpec)

/-- ITS FALSE NEIGHBOUR: 'it returns false'. Refute it at one input. -/
def fnIsPrintableMatchesYAMLTableWrong : ChangeSpec := { name := "fnIsPrintableMatchesYAMLTable", fn := fun _ => fun
  | [d] => { results := [.lit (.bool false)], args := [d] }
  | _ => none }
def FnIsPrintableMatchesYAMLTableWrongFalsely : Prop := fnIsPrintableMatchesYAMLTableRow.holds Trym.pinned (OpenSpec.ofChange fnIsPrintableMatchesYAMLTableWrong)

end Rows
end Go.Proofs.Qxb6603804aMods

/-
  No cell of these rows narrows 'for every input' (looked for: loops, veiled, ifaces, maps, wideKeys, modest, calm, conditions, laid).
  DERIVED. THE GIVEN ROWS OF THIS SEAT. 2 by the template 'for every input the law returns true; each argument reads behind the call as it read before'; 0 by the template 'total and deterministic' (their statements: Qxb6602001aModsTotals.lean).
  GIVEN WITH THE SEED: the statements are not yours to turn. If you find one false, say at which input.
  Laid BY PROGRAM, IN A SANDBOX (cutbox-rows.mjs): the forced cells as the released guide's own fill.sh prints them over the translation 5a2c838626343de9… (all of the seat's roots in one cut). By AI agents, Wed Nov 11 2026. No macro, syntax, notation, axiom, sorry.
-/
import Derived.Test.Qxb6602001aModsChecked
import GoSem.Claim
import GoSem.ClaimJoined
import GoSem.ClaimMapViews
import Derived.JoinedTies
import Derived.KernelRfl
namespace Go.Proofs.Qxb6602001aMods
/- THE CELL 'sum', in the pinned program and in every row, IS THE sha256 OF THE DUMP (.gsa) THAT Qxb6602001aModsProg.lean LOADS. Nothing in Lean hashes anything: it is a label: what it is worth is what the hold of that sum in a sandbox is worth. -/
noncomputable def Trym.pinned : Pinned := { name := "qxb6602001amods", sum := "5a2c838626343de97816bf37bd3db8612c93db59f8f33b94dde15cd6376402d6", checked := Trym.checked }
namespace Rows
def none {H : Type} : Left H := { results := [], args := [] }

/-- 'zzlaws_root_b1.FnLeadingDigitsIsLongestDigitPrefix': WHATEVER THE INPUT: true; the input reads as it did. -/
def fnLeadingDigitsIsLongestDigitPrefixSpec : ChangeSpec := { name := "fnLeadingDigitsIsLongestDigitPrefix", fn := fun _ => fun
  | [d] => { results := [.lit (.bool true)], args := [d] }
  | _ => none }
def fnLeadingDigitsIsLongestDigitPrefixRow : OpenClaim := { program := "qxb6602001amods", sum := "5a2c838626343de97816bf37bd3db8612c93db59f8f33b94dde15cd6376402d6", func := "example.com/modulot/modulot/zzlaws_root_b1.FnLeadingDigitsIsLongestDigitPrefix", spec := "fnLeadingDigitsIsLongestDigitPrefix", make := .lifted ["publicsums"], apart := false }
def FnLeadingDigitsIsLongestDigitPrefixSaid : Prop := fnLeadingDigitsIsLongestDigitPrefixRow.holds Trym.pinned (OpenSpec.ofChange fnLeadingDigitsIsLongestDigitPrefixSpec)

/-- ITS FALSE NEIGHBOUR: 'it returns false'. Refute it at one input. -/
def fnLeadingDigitsIsLongestDigitPrefixWrong : ChangeSpec := { name := "fnLeadingDigitsIsLongestDigitPrefix", fn := fun _ => fun
  | [d] => { results := [.lit (.bool false)], args := [d] }
  | _ => none }
def FnLeadingDigitsIsLongestDigitPrefixWrongFalsely : Prop := fnLeadingDigitsIsLongestDigitPrefixRow.holds Trym.pinned (OpenSpec.ofChange fnLeadingDigitsIsLongestDigitPrefixWrong)

/-- 'zzlaws_root_b1.FnLeadingDigitsOverConcatenation': WHATEVER THE INPUT: true; the input reads as it did. -/
def fnLeadingDigitsOverConcatenationSpec : ChangeSpec := { name := "fnLeadingDigitsOverConcatenation", fn := fun _ => fun
  | [d1, d2] => { results := [.lit (.bool true)], args := [d1, d2] }
  | _ => none }
def fnLeadingDigitsOverConcatenationRow : OpenClaim := { program := "qxb6602001amods", sum := "5a2c838626343de97816bf37bd3db8612c93db59f8f33b94dde15cd6376402d6", func := "example.com/modulot/modulot/zzlaws_root_b1.FnLeadingDigitsOverConcatenation", spec := "fnLeadingDigitsOverConcatenation", make := .lifted ["publicsums"], apart := false }
def FnLeadingDigitsOverConcatenationSaid : Prop := fnLeadingDigitsOverConcatenationRow.holds Trym.pinned (OpenSpec.ofChange fnLeadingDigitsOverConcatenationSpec)

/-- ITS FALSE NEIGHBOUR: 'it returns false'. Refute it at one input. -/
def fnLeadingDigitsOverConcatenationWrong : ChangeSpec := { name := "fnLeadingDigitsOverConcatenation", fn := fun _ => fun
  | [d1, d2] => { results := [.lit (.bool false)], args := [d1, d2] }
  | _ => none }
def FnLeadingDigitsOverConcatenationWrongFalsely : Prop := fnLeadingDigitsOverConcatenationRow.holds Trym.pinned (OpenSpec.ofChange fnLeadingDigitsOverConcatenationWrong)

end Rows
end Go.Proofs.Qxb6602001aMods

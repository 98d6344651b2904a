/-
  No cell of these rows narrows 'for every input' (looked for: loops, veiled, ifaces, maps, wideKeys, modest, calm, conditions, laid).
  DERIVED. THE GIVEN ROWS OF THIS SEAT. 3 by the template 'for every input the law returns true; each argument reads behind the call as it read before'; 0 by the template 'total and deterministic' (their statements: Qxb6601453aModsTotals.lean).
  GIVEN WITH THE SEED: the statements are not yours to turn. If you find one false, say at which input.
  Laid BY PROGRAM, IN A SANDBOX (cutbox-rows.mjs): the forced cells as the released guide's own fill.sh prints them over the translation ffa19e8fc7b10ed8… (all of the seat's roots in one cut). By AI agents, Wed Nov 11 2026. No macro, syntax, notation, axiom, sorry.
-/
import Derived.Test.Qxb6601453aModsChecked
import GoSem.Claim
import GoSem.ClaimJoined
import GoSem.ClaimMapViews
import Derived.JoinedTies
import Derived.KernelRfl
namespace Go.Proofs.Qxb6601453aMods
/- THE CELL 'sum', in the pinned program and in every row, IS THE sha256 OF THE DUMP (.gsa) THAT Qxb6601453aModsProg.lean LOADS. Nothing in Lean hashes anything: it is a label: what it is worth is what the hold of that sum in a sandbox is worth. -/
noncomputable def Trym.pinned : Pinned := { name := "qxb6601453amods", sum := "ffa19e8fc7b10ed8af65e51ee18a12362b3b2955dd72b746ffdfa597a99363c7", checked := Trym.checked }
namespace Rows
def none {H : Type} : Left H := { results := [], args := [] }

/-- 'zzlaws_internal_httpdoor_b1.FnCutLastSplitsAtLastSlash': WHATEVER THE INPUT: true; the input reads as it did. -/
def fnCutLastSplitsAtLastSlashSpec : ChangeSpec := { name := "fnCutLastSplitsAtLastSlash", fn := fun _ => fun
  | [d] => { results := [.lit (.bool true)], args := [d] }
  | _ => none }
def fnCutLastSplitsAtLastSlashRow : OpenClaim := { program := "qxb6601453amods", sum := "ffa19e8fc7b10ed8af65e51ee18a12362b3b2955dd72b746ffdfa597a99363c7", func := "example.com/mooring/mooring/zzlaws_internal_httpdoor_b1.FnCutLastSplitsAtLastSlash", spec := "fnCutLastSplitsAtLastSlash", make := .lifted ["publicsums"], apart := false }
def FnCutLastSplitsAtLastSlashSaid : Prop := fnCutLastSplitsAtLastSlashRow.holds Trym.pinned (OpenSpec.ofChange fnCutLastSplitsAtLastSlashSpec)

/-- ITS FALSE NEIGHBOUR: 'it returns false'. Refute it at one input. -/
def fnCutLastSplitsAtLastSlashWrong : ChangeSpec := { name := "fnCutLastSplitsAtLastSlash", fn := fun _ => fun
  | [d] => { results := [.lit (.bool false)], args := [d] }
  | _ => none }
def FnCutLastSplitsAtLastSlashWrongFalsely : Prop := fnCutLastSplitsAtLastSlashRow.holds Trym.pinned (OpenSpec.ofChange fnCutLastSplitsAtLastSlashWrong)

/-- 'zzlaws_internal_httpdoor_b1.FnCutLastUndoesJoin': WHATEVER THE INPUT: true; the input reads as it did. -/
def fnCutLastUndoesJoinSpec : ChangeSpec := { name := "fnCutLastUndoesJoin", fn := fun _ => fun
  | [d1, d2] => { results := [.lit (.bool true)], args := [d1, d2] }
  | _ => none }
def fnCutLastUndoesJoinRow : OpenClaim := { program := "qxb6601453amods", sum := "ffa19e8fc7b10ed8af65e51ee18a12362b3b2955dd72b746ffdfa597a99363c7", func := "example.com/mooring/mooring/zzlaws_internal_httpdoor_b1.FnCutLastUndoesJoin", spec := "fnCutLastUndoesJoin", make := .lifted ["publicsums"], apart := false }
def FnCutLastUndoesJoinSaid : Prop := fnCutLastUndoesJoinRow.holds Trym.pinned (OpenSpec.ofChange fnCutLastUndoesJoinSpec)

/-- ITS FALSE NEIGHBOUR: 'it returns false'. Refute it at one input. -/
def fnCutLastUndoesJoinWrong : ChangeSpec := { name := "fnCutLastUndoesJoin", fn := fun _ => fun
  | [d1, d2] => { results := [.lit (.bool false)], args := [d1, d2] }
  | _ => none }
def FnCutLastUndoesJoinWrongFalsely : Prop := fnCutLastUndoesJoinRow.holds Trym.pinned (OpenSpec.ofChange fnCutLastUndoesJoinWrong)

/-- 'zzlaws_internal_httpdoor_b1.FnCutLastAppendExtendsLastSegment': WHATEVER THE INPUT: true; the input reads as it did. -/
def fnCutLastAppendExtendsLastSegmentSpec : ChangeSpec := { name := "fnCutLastAppendExtendsLastSegment", fn := fun _ => fun
  | [d1, d2] => { results := [.lit (.bool true)], args := [d1, d2] }
  | _ => none }
def fnCutLastAppendExtendsLastSegmentRow : OpenClaim := { program := "qxb6601453amods", sum := "ffa19e8fc7b10ed8af65e51ee18a12362b3b2955dd72b746ffdfa597a99363c7", func := "example.com/mooring/mooring/zzlaws_internal_httpdoor_b1.FnCutLastAppendExtendsLastSegment", spec := "fnCutLastAppendExtendsLastSegment", make := .lifted ["publicsums"], apart := false }
def FnCutLastAppendExtendsLastSegmentSaid : Prop := fnCutLastAppendExtendsLastSegmentRow.holds Trym.pinned (OpenSpec.ofChange fnCutLastAppendExtendsLastSegmentSpec)

/-- ITS FALSE NEIGHBOUR: 'it returns false'. Refute it at one input. -/
def fnCutLastAppendExtendsLastSegmentWrong : ChangeSpec := { name := "fnCutLastAppendExtendsLastSegment", fn := fun _ => fun
  | [d1, d2] => { results := [.lit (.bool false)], args := [d1, d2] }
  | _ => none }
def FnCutLastAppendExtendsLastSegmentWrongFalsely : Prop := fnCutLastAppendExtendsLastSegmentRow.holds Trym.pinned (OpenSpec.ofChange fnCutLastAppendExtendsLastSegmentWrong)

end Rows
end Go.Proofs.Qxb6601453aMods

/-
  No cell of these rows narrows 'for every input' (looked for: loops, veiled, ifaces, maps, wideKeys, modest, calm, conditions, laid).
  DERIVED. THE GIVEN ROWS OF THIS SEAT. 5 by the template 'for every input the law returns true; each argument reads behind the call as it read before'; 0 by the template 'total and deterministic' (their statements: Qxb6602698aModsTotals.lean).
  GIVEN WITH THE SEED: the statements are not yours to turn. If you find one false, say at which input.
  Laid BY PROGRAM, IN A SANDBOX (cutbox-rows.mjs): the forced cells as the released guide's own fill.sh prints them over the translation c1c4fc6d9ff92244… (all of the seat's roots in one cut). By AI agents, Wed Nov 11 2026. No macro, syntax, notation, axiom, sorry.
-/
import Derived.Test.Qxb6602698aModsChecked
import GoSem.Claim
import GoSem.ClaimJoined
import GoSem.ClaimMapViews
import Derived.JoinedTies
import Derived.KernelRfl
namespace Go.Proofs.Qxb6602698aMods
/- THE CELL 'sum', in the pinned program and in every row, IS THE sha256 OF THE DUMP (.gsa) THAT Qxb6602698aModsProg.lean LOADS. Nothing in Lean hashes anything: it is a label: what it is worth is what the hold of that sum in a sandbox is worth. -/
noncomputable def Trym.pinned : Pinned := { name := "qxb6602698amods", sum := "c1c4fc6d9ff92244c04891eaa244c76bb31902cd2ebcdab96edcd2a97c6a2d3a", checked := Trym.checked }
namespace Rows
def none {H : Type} : Left H := { results := [], args := [] }

/-- 'zzlaws_s3_b1.FnCursorStartFirstKeyPast': WHATEVER THE INPUT: true; the input reads as it did. -/
def fnCursorStartFirstKeyPastSpec : ChangeSpec := { name := "fnCursorStartFirstKeyPast", fn := fun _ => fun
  | [d1, d2, d3] => { results := [.lit (.bool true)], args := [d1, d2, d3] }
  | _ => none }
def fnCursorStartFirstKeyPastRow : OpenClaim := { program := "qxb6602698amods", sum := "c1c4fc6d9ff92244c04891eaa244c76bb31902cd2ebcdab96edcd2a97c6a2d3a", func := "example.com/mayfly/mayfly/zzlaws_s3_b1.FnCursorStartFirstKeyPast", spec := "fnCursorStartFirstKeyPast", make := .lifted ["publicsums"], apart := false }
def FnCursorStartFirstKeyPastSaid : Prop := fnCursorStartFirstKeyPastRow.holds Trym.pinned (OpenSpec.ofChange fnCursorStartFirstKeyPastSpec)

/-- ITS FALSE NEIGHBOUR: 'it returns false'. Refute it at one input. -/
def fnCursorStartFirstKeyPastWrong : ChangeSpec := { name := "fnCursorStartFirstKeyPast", fn := fun _ => fun
  | [d1, d2, d3] => { results := [.lit (.bool false)], args := [d1, d2, d3] }
  | _ => none }
def FnCursorStartFirstKeyPastWrongFalsely : Prop := fnCursorStartFirstKeyPastRow.holds Trym.pinned (OpenSpec.ofChange fnCursorStartFirstKeyPastWrong)

/-- 'zzlaws_s3_b1.FnCursorStartShape': WHATEVER THE INPUT: true; the input reads as it did. -/
def fnCursorStartShapeSpec : ChangeSpec := { name := "fnCursorStartShape", fn := fun _ => fun
  | [d] => { results := [.lit (.bool true)], args := [d] }
  | _ => none }
def fnCursorStartShapeRow : OpenClaim := { program := "qxb6602698amods", sum := "c1c4fc6d9ff92244c04891eaa244c76bb31902cd2ebcdab96edcd2a97c6a2d3a", func := "example.com/mayfly/mayfly/zzlaws_s3_b1.FnCursorStartShape", spec := "fnCursorStartShape", make := .lifted ["publicsums"], apart := false }
def FnCursorStartShapeSaid : Prop := fnCursorStartShapeRow.holds Trym.pinned (OpenSpec.ofChange fnCursorStartShapeSpec)

/-- ITS FALSE NEIGHBOUR: 'it returns false'. Refute it at one input. -/
def fnCursorStartShapeWrong : ChangeSpec := { name := "fnCursorStartShape", fn := fun _ => fun
  | [d] => { results := [.lit (.bool false)], args := [d] }
  | _ => none }
def FnCursorStartShapeWrongFalsely : Prop := fnCursorStartShapeRow.holds Trym.pinned (OpenSpec.ofChange fnCursorStartShapeWrong)

/-- 'zzlaws_s3_b1.FnEntryOfSpec': WHATEVER THE INPUT: true; the input reads as it did. -/
def fnEntryOfSpecSpec : ChangeSpec := { name := "fnEntryOfSpec", fn := fun _ => fun
  | [d1, d2, d3, d4, d5, d6] => { results := [.lit (.bool true)], args := [d1, d2, d3, d4, d5, d6] }
  | _ => none }
def fnEntryOfSpecRow : OpenClaim := { program := "qxb6602698amods", sum := "c1c4fc6d9ff92244c04891eaa244c76bb31902cd2ebcdab96edcd2a97c6a2d3a", func := "example.com/mayfly/mayfly/zzlaws_s3_b1.FnEntryOfSpec", spec := "fnEntryOfSpec", inPlace := ["internal/bytealg.IndexByteString", "internal/bytealg.IndexString"], named := ["internal/bytealg.MaxLen"], make := .lifted ["publicsums"], apart := false }
def FnEntryOfSpecSaid : Prop := fnEntryOfSpecRow.holds Trym.pinned (OpenSpec.ofChange fnEntryOfSpecSpec)

/-- ITS FALSE NEIGHBOUR: 'it returns false'. Refute it at one input. -/
def fnEntryOfSpecWrong : ChangeSpec := { name := "fnEntryOfSpec", fn := fun _ => fun
  | [d1, d2, d3, d4, d5, d6] => { results := [.lit (.bool false)], args := [d1, d2, d3, d4, d5, d6] }
  | _ => none }
def FnEntryOfSpecWrongFalsely : Prop := fnEntryOfSpecRow.holds Trym.pinned (OpenSpec.ofChange fnEntryOfSpecWrong)

/-- 'zzlaws_s3_b1.FnEntryOfIdempotent': WHATEVER THE INPUT: true; the input reads as it did. -/
def fnEntryOfIdempotentSpec : ChangeSpec := { name := "fnEntryOfIdempotent", fn := fun _ => fun
  | [d1, d2, d3, d4, d5, d6] => { results := [.lit (.bool true)], args := [d1, d2, d3, d4, d5, d6] }
  | _ => none }
def fnEntryOfIdempotentRow : OpenClaim := { program := "qxb6602698amods", sum := "c1c4fc6d9ff92244c04891eaa244c76bb31902cd2ebcdab96edcd2a97c6a2d3a", func := "example.com/mayfly/mayfly/zzlaws_s3_b1.FnEntryOfIdempotent", spec := "fnEntryOfIdempotent", inPlace := ["internal/bytealg.IndexByteString", "internal/bytealg.IndexString"], named := ["internal/bytealg.MaxLen"], make := .lifted ["publicsums"], apart := false }
def FnEntryOfIdempotentSaid : Prop := fnEntryOfIdempotentRow.holds Trym.pinned (OpenSpec.ofChange fnEntryOfIdempotentSpec)

/-- ITS FALSE NEIGHBOUR: 'it returns false'. Refute it at one input. -/
def fnEntryOfIdempotentWrong : ChangeSpec := { name := "fnEntryOfIdempotent", fn := fun _ => fun
  | [d1, d2, d3, d4, d5, d6] => { results := [.lit (.bool false)], args := [d1, d2, d3, d4, d5, d6] }
  | _ => none }
def FnEntryOfIdempotentWrongFalsely : Prop := fnEntryOfIdempotentRow.holds Trym.pinned (OpenSpec.ofChange fnEntryOfIdempotentWrong)

/-- 'zzlaws_s3_b1.FnEntryOfRollsUpAndResumesPast': WHATEVER THE INPUT: true; the input reads as it did. -/
def fnEntryOfRollsUpAndResumesPastSpec : ChangeSpec := { name := "fnEntryOfRollsUpAndResumesPast", fn := fun _ => fun
  | [d1, d2, d3, d4, d5, d6, d7] => { results := [.lit (.bool true)], args := [d1, d2, d3, d4, d5, d6, d7] }
  | _ => none }
def fnEntryOfRollsUpAndResumesPastRow : OpenClaim := { program := "qxb6602698amods", sum := "c1c4fc6d9ff92244c04891eaa244c76bb31902cd2ebcdab96edcd2a97c6a2d3a", func := "example.com/mayfly/mayfly/zzlaws_s3_b1.FnEntryOfRollsUpAndResumesPast", spec := "fnEntryOfRollsUpAndResumesPast", inPlace := ["internal/bytealg.IndexByteString", "internal/bytealg.IndexString"], named := ["internal/bytealg.MaxLen"], make := .lifted ["publicsums"], apart := false }
def FnEntryOfRollsUpAndResumesPastSaid : Prop := fnEntryOfRollsUpAndResumesPastRow.holds Trym.pinned (OpenSpec.ofChange fnEntryOfRollsUpAndResumesPastSpec)

/-- ITS FALSE NEIGHBOUR: 'it returns false'. Refute it at one input. -/
def fnEntryOfRollsUpAndResumesPastWrong : ChangeSpec := { name := "fnEntryOfRollsUpAndResumesPast", fn := fun _ => fun
  | [d1, d2, d3, d4, d5, d6, d7] => { results := [.lit (.bool false)], args := [d1, d2, d3, d4, d5, d6, d7] }
  | _ => none }
def FnEntryOfRollsUpAndResumesPastWrongFalsely : Prop := fnEntryOfRollsUpAndResumesPastRow.holds Trym.pinned (OpenSpec.ofChange fnEntryOfRollsUpAndResumesPastWrong)

end Rows
end Go.Proofs.Qxb6602698aMods

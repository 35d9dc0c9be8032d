/-
  No cell of these rows narrows 'for every input' (looked for: loops, veiled, ifaces, maps, wideKeys, modest, calm, conditions, laid).
  DERIVED. THE GIVEN ROWS OF THIS SEAT. 4 by the template 'for every input the law returns true; each argument reads behind the call as it read before'; 0 by the template 'total and deterministic' (their statements: Qxb6600442aModsTotals.lean).
  GIVEN WITH THE SEED: the statements are not yours to turn. If you find one false, say at which input.
  Laid BY PROGRAM, IN A SANDBOX (cutbox-rows.mjs): the forced cells as the released guide's own fill.sh prints them over the translation 0d489928b95cc1b9… (all of the seat's roots in one cut). By AI agents, Wed Nov 11 2026. No macro, syntax, notation, axiom, sorry.
-/
import Derived.Test.Qxb6600442aModsChecked
import GoSem.Claim
import GoSem.ClaimJoined
import GoSem.ClaimMapViews
import Derived.JoinedTies
import Derived.KernelRfl
namespace Go.Proofs.Qxb6600442aMods
/- THE CELL 'sum', in the pinned program and in every row, IS THE sha256 OF THE DUMP (.gsa) THAT Qxb6600442aModsProg.lean LOADS. Nothing in Lean hashes anything: it is a label: what it is worth is what the hold of that sum in a sandbox is worth. -/
noncomputable def Trym.pinned : Pinned := { name := "qxb6600442amods", sum := "0d489928b95cc1b96ace92b4749c3de9e5488928dc6db829d7f54d2b99f5a406", checked := Trym.checked }
namespace Rows
def none {H : Type} : Left H := { results := [], args := [] }

/-- 'zzlaws_internal_target_b1.FnUtf8LenBoundedAndSelfContained': WHATEVER THE INPUT: true; the input reads as it did. -/
def fnUtf8LenBoundedAndSelfContainedSpec : ChangeSpec := { name := "fnUtf8LenBoundedAndSelfContained", fn := fun _ => fun
  | [d] => { results := [.lit (.bool true)], args := [d] }
  | _ => none }
def fnUtf8LenBoundedAndSelfContainedRow : OpenClaim := { program := "qxb6600442amods", sum := "0d489928b95cc1b96ace92b4749c3de9e5488928dc6db829d7f54d2b99f5a406", func := "example.com/table-sync-scheduler/table-sync-scheduler/zzlaws_internal_target_b1.FnUtf8LenBoundedAndSelfContained", spec := "fnUtf8LenBoundedAndSelfContained", make := .lifted ["publicsums"], apart := false }
def FnUtf8LenBoundedAndSelfContainedSaid : Prop := fnUtf8LenBoundedAndSelfContainedRow.holds Trym.pinned (OpenSpec.ofChange fnUtf8LenBoundedAndSelfContainedSpec)

/-- ITS FALSE NEIGHBOUR: 'it returns false'. Refute it at one input. -/
def fnUtf8LenBoundedAndSelfContainedWrong : ChangeSpec := { name := "fnUtf8LenBoundedAndSelfContained", fn := fun _ => fun
  | [d] => { results := [.lit (.bool false)], args := [d] }
  | _ => none }
def FnUtf8LenBoundedAndSelfContainedWrongFalsely : Prop := fnUtf8LenBoundedAndSelfContainedRow.holds Trym.pinned (OpenSpec.ofChange fnUtf8LenBoundedAndSelfContainedWrong)

/-- 'zzlaws_internal_target_b1.FnUtf8LenReadsWholeEncodedRune': WHATEVER THE INPUT: true; the input reads as it did. -/
def fnUtf8LenReadsWholeEncodedRuneSpec : ChangeSpec := { name := "fnUtf8LenReadsWholeEncodedRune", fn := fun _ => fun
  | [d1, d2] => { results := [.lit (.bool true)], args := [d1, d2] }
  | _ => none }
def fnUtf8LenReadsWholeEncodedRuneRow : OpenClaim := { program := "qxb6600442amods", sum := "0d489928b95cc1b96ace92b4749c3de9e5488928dc6db829d7f54d2b99f5a406", func := "example.com/table-sync-scheduler/table-sync-scheduler/zzlaws_internal_target_b1.FnUtf8LenReadsWholeEncodedRune", spec := "fnUtf8LenReadsWholeEncodedRune", make := .lifted ["publicsums"], apart := false }
def FnUtf8LenReadsWholeEncodedRuneSaid : Prop := fnUtf8LenReadsWholeEncodedRuneRow.holds Trym.pinned (OpenSpec.ofChange fnUtf8LenReadsWholeEncodedRuneSpec)

/-- ITS FALSE NEIGHBOUR: 'it returns false'. Refute it at one input. -/
def fnUtf8LenReadsWholeEncodedRuneWrong : ChangeSpec := { name := "fnUtf8LenReadsWholeEncodedRune", fn := fun _ => fun
  | [d1, d2] => { results := [.lit (.bool false)], args := [d1, d2] }
  | _ => none }
def FnUtf8LenReadsWholeEncodedRuneWrongFalsely : Prop := fnUtf8LenReadsWholeEncodedRuneRow.holds Trym.pinned (OpenSpec.ofChange fnUtf8LenReadsWholeEncodedRuneWrong)

/-- 'zzlaws_internal_target_b1.FnAppendPGLiteralIsStrictQuotedText': WHATEVER THE INPUT: true; the input reads as it did. -/
def fnAppendPGLiteralIsStrictQuotedTextSpec : ChangeSpec := { name := "fnAppendPGLiteralIsStrictQuotedText", fn := fun _ => fun
  | [d1, d2] => { results := [.lit (.bool true)], args := [d1, d2] }
  | _ => none }
def fnAppendPGLiteralIsStrictQuotedTextRow : OpenClaim := { program := "qxb6600442amods", sum := "0d489928b95cc1b96ace92b4749c3de9e5488928dc6db829d7f54d2b99f5a406", func := "example.com/table-sync-scheduler/table-sync-scheduler/zzlaws_internal_target_b1.FnAppendPGLiteralIsStrictQuotedText", spec := "fnAppendPGLiteralIsStrictQuotedText", make := .lifted ["publicsums"], apart := false }
def FnAppendPGLiteralIsStrictQuotedTextSaid : Prop := fnAppendPGLiteralIsStrictQuotedTextRow.holds Trym.pinned (OpenSpec.ofChange fnAppendPGLiteralIsStrictQuotedTextSpec)

/-- ITS FALSE NEIGHBOUR: 'it returns false'. Refute it at one input. -/
def fnAppendPGLiteralIsStrictQuotedTextWrong : ChangeSpec := { name := "fnAppendPGLiteralIsStrictQuotedText", fn := fun _ => fun
  | [d1, d2] => { results := [.lit (.bool false)], args := [d1, d2] }
  | _ => none }
def FnAppendPGLiteralIsStrictQuotedTextWrongFalsely : Prop := fnAppendPGLiteralIsStrictQuotedTextRow.holds Trym.pinned (OpenSpec.ofChange fnAppendPGLiteralIsStrictQuotedTextWrong)

/-- 'zzlaws_internal_target_b1.FnAppendPGLiteralSplitsAtConcatenation': WHATEVER THE INPUT: true; the input reads as it did. -/
def fnAppendPGLiteralSplitsAtConcatenationSpec : ChangeSpec := { name := "fnAppendPGLiteralSplitsAtConcatenation", fn := fun _ => fun
  | [d1, d2, d3] => { results := [.lit (.bool true)], args := [d1, d2, d3] }
  | _ => none }
def fnAppendPGLiteralSplitsAtConcatenationRow : OpenClaim := { program := "qxb6600442amods", sum := "0d489928b95cc1b96ace92b4749c3de9e5488928dc6db829d7f54d2b99f5a406", func := "example.com/table-sync-scheduler/table-sync-scheduler/zzlaws_internal_target_b1.FnAppendPGLiteralSplitsAtConcatenation", spec := "fnAppendPGLiteralSplitsAtConcatenation", make := .lifted ["publicsums"], apart := false }
def FnAppendPGLiteralSplitsAtConcatenationSaid : Prop := fnAppendPGLiteralSplitsAtConcatenationRow.holds Trym.pinned (OpenSpec.ofChange fnAppendPGLiteralSplitsAtConcatenationSpec)

/-- ITS FALSE NEIGHBOUR: 'it returns false'. Refute it at one input. -/
def fnAppendPGLiteralSplitsAtConcatenationWrong : ChangeSpec := { name := "fnAppendPGLiteralSplitsAtConcatenation", fn := fun _ => fun
  | [d1, d2, d3] => { results := [.lit (.bool false)], args := [d1, d2, d3] }
  | _ => none }
def FnAppendPGLiteralSplitsAtConcatenationWrongFalsely : Prop := fnAppendPGLiteralSplitsAtConcatenationRow.holds Trym.pinned (OpenSpec.ofChange fnAppendPGLiteralSplitsAtConcatenationWrong)

end Rows
end Go.Proofs.Qxb6600442aMods

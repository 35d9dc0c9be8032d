/-
  No cell of these rows narrows 'for every input' (looked for: loops, veiled, ifaces, maps, wideKeys, modest, calm, conditions, laid).
  DERIVED. THE GIVEN ROWS OF THIS SEAT. 4 by the template 'for every input the law returns true; each argument reads behind the call as it read before'; 0 by the template 'total and deterministic' (their statements: Qxb6602456aModsTotals.lean).
  GIVEN WITH THE SEED: the statements are not yours to turn. If you find one false, say at which input.
  Laid BY PROGRAM, IN A SANDBOX (cutbox-rows.mjs): the forced cells as the released guide's own fill.sh prints them over the translation 334a34d7ae164bb0… (all of the seat's roots in one cut). By AI agents, Wed Nov 11 2026. No macro, syntax, notation, axiom, sorry.
-/
import Derived.Test.Qxb6602456aModsChecked
import GoSem.Claim
import GoSem.ClaimJoined
import GoSem.ClaimMapViews
import Derived.JoinedTies
import Derived.KernelRfl
namespace Go.Proofs.Qxb6602456aMods
/- THE CELL 'sum', in the pinned program and in every row, IS THE sha256 OF THE DUMP (.gsa) THAT Qxb6602456aModsProg.lean LOADS. Nothing in Lean hashes anything: it is a label: what it is worth is what the hold of that sum in a sandbox is worth. -/
noncomputable def Trym.pinned : Pinned := { name := "qxb6602456amods", sum := "334a34d7ae164bb045fc75571f229160f134ba5880df84855013b5b72e30f3a9", checked := Trym.checked }
namespace Rows
def none {H : Type} : Left H := { results := [], args := [] }

/-- 'zzlaws_store_b1.FnFieldBytesSplitsOffAPrefix': WHATEVER THE INPUT: true; the input reads as it did. -/
def fnFieldBytesSplitsOffAPrefixSpec : ChangeSpec := { name := "fnFieldBytesSplitsOffAPrefix", fn := fun _ => fun
  | [d1, d2, d3] => { results := [.lit (.bool true)], args := [d1, d2, d3] }
  | _ => none }
def fnFieldBytesSplitsOffAPrefixRow : OpenClaim := { program := "qxb6602456amods", sum := "334a34d7ae164bb045fc75571f229160f134ba5880df84855013b5b72e30f3a9", func := "example.com/demesne/demesne/zzlaws_store_b1.FnFieldBytesSplitsOffAPrefix", spec := "fnFieldBytesSplitsOffAPrefix", make := .lifted ["publicsums"], apart := false }
def FnFieldBytesSplitsOffAPrefixSaid : Prop := fnFieldBytesSplitsOffAPrefixRow.holds Trym.pinned (OpenSpec.ofChange fnFieldBytesSplitsOffAPrefixSpec)

/-- ITS FALSE NEIGHBOUR: 'it returns false'. Refute it at one input. -/
def fnFieldBytesSplitsOffAPrefixWrong : ChangeSpec := { name := "fnFieldBytesSplitsOffAPrefix", fn := fun _ => fun
  | [d1, d2, d3] => { results := [.lit (.bool false)], args := [d1, d2, d3] }
  | _ => none }
def FnFieldBytesSplitsOffAPrefixWrongFalsely : Prop := fnFieldBytesSplitsOffAPrefixRow.holds Trym.pinned (OpenSpec.ofChange fnFieldBytesSplitsOffAPrefixWrong)

/-- 'zzlaws_store_b1.FnFieldBytesTwoReadsAsOne': WHATEVER THE INPUT: true; the input reads as it did. -/
def fnFieldBytesTwoReadsAsOneSpec : ChangeSpec := { name := "fnFieldBytesTwoReadsAsOne", fn := fun _ => fun
  | [d1, d2, d3, d4] => { results := [.lit (.bool true)], args := [d1, d2, d3, d4] }
  | _ => none }
def fnFieldBytesTwoReadsAsOneRow : OpenClaim := { program := "qxb6602456amods", sum := "334a34d7ae164bb045fc75571f229160f134ba5880df84855013b5b72e30f3a9", func := "example.com/demesne/demesne/zzlaws_store_b1.FnFieldBytesTwoReadsAsOne", spec := "fnFieldBytesTwoReadsAsOne", make := .lifted ["publicsums"], apart := false }
def FnFieldBytesTwoReadsAsOneSaid : Prop := fnFieldBytesTwoReadsAsOneRow.holds Trym.pinned (OpenSpec.ofChange fnFieldBytesTwoReadsAsOneSpec)

/-- ITS FALSE NEIGHBOUR: 'it returns false'. Refute it at one input. -/
def fnFieldBytesTwoReadsAsOneWrong : ChangeSpec := { name := "fnFieldBytesTwoReadsAsOne", fn := fun _ => fun
  | [d1, d2, d3, d4] => { results := [.lit (.bool false)], args := [d1, d2, d3, d4] }
  | _ => none }
def FnFieldBytesTwoReadsAsOneWrongFalsely : Prop := fnFieldBytesTwoReadsAsOneRow.holds Trym.pinned (OpenSpec.ofChange fnFieldBytesTwoReadsAsOneWrong)

/-- 'zzlaws_store_b1.FnFieldTextSplitsLengthTextRest': WHATEVER THE INPUT: true; the input reads as it did. -/
def fnFieldTextSplitsLengthTextRestSpec : ChangeSpec := { name := "fnFieldTextSplitsLengthTextRest", fn := fun _ => fun
  | [d1, d2] => { results := [.lit (.bool true)], args := [d1, d2] }
  | _ => none }
def fnFieldTextSplitsLengthTextRestRow : OpenClaim := { program := "qxb6602456amods", sum := "334a34d7ae164bb045fc75571f229160f134ba5880df84855013b5b72e30f3a9", func := "example.com/demesne/demesne/zzlaws_store_b1.FnFieldTextSplitsLengthTextRest", spec := "fnFieldTextSplitsLengthTextRest", make := .lifted ["publicsums"], apart := false }
def FnFieldTextSplitsLengthTextRestSaid : Prop := fnFieldTextSplitsLengthTextRestRow.holds Trym.pinned (OpenSpec.ofChange fnFieldTextSplitsLengthTextRestSpec)

/-- ITS FALSE NEIGHBOUR: 'it returns false'. Refute it at one input. -/
def fnFieldTextSplitsLengthTextRestWrong : ChangeSpec := { name := "fnFieldTextSplitsLengthTextRest", fn := fun _ => fun
  | [d1, d2] => { results := [.lit (.bool false)], args := [d1, d2] }
  | _ => none }
def FnFieldTextSplitsLengthTextRestWrongFalsely : Prop := fnFieldTextSplitsLengthTextRestRow.holds Trym.pinned (OpenSpec.ofChange fnFieldTextSplitsLengthTextRestWrong)

/-- 'zzlaws_store_b1.FnFieldTextReadsBackWhatWasWritten': WHATEVER THE INPUT: true; the input reads as it did. -/
def fnFieldTextReadsBackWhatWasWrittenSpec : ChangeSpec := { name := "fnFieldTextReadsBackWhatWasWritten", fn := fun _ => fun
  | [d1, d2] => { results := [.lit (.bool true)], args := [d1, d2] }
  | _ => none }
def fnFieldTextReadsBackWhatWasWrittenRow : OpenClaim := { program := "qxb6602456amods", sum := "334a34d7ae164bb045fc75571f229160f134ba5880df84855013b5b72e30f3a9", func := "example.com/demesne/demesne/zzlaws_store_b1.FnFieldTextReadsBackWhatWasWritten", spec := "fnFieldTextReadsBackWhatWasWritten", make := .lifted ["publicsums"], apart := false }
def FnFieldTextReadsBackWhatWasWrittenSaid : Prop := fnFieldTextReadsBackWhatWasWrittenRow.holds Trym.pinned (OpenSpec.ofChange fnFieldTextReadsBackWhatWasWrittenSpec)

/-- ITS FALSE NEIGHBOUR: 'it returns false'. Refute it at one input. -/
def fnFieldTextReadsBackWhatWasWrittenWrong : ChangeSpec := { name := "fnFieldTextReadsBackWhatWasWritten", fn := fun _ => fun
  | [d1, d2] => { results := [.lit (.bool false)], args := [d1, d2] }
  | _ => none }
def FnFieldTextReadsBackWhatWasWrittenWrongFalsely : Prop := fnFieldTextReadsBackWhatWasWrittenRow.holds Trym.pinned (OpenSpec.ofChange fnFieldTextReadsBackWhatWasWrittenWrong)

end Rows
end Go.Proofs.Qxb6602456aMods

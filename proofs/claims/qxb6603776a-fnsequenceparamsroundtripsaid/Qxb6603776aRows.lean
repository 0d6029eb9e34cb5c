/-
  No cell of these rows narrows 'for every input' (looked for: loops, veiled, ifaces, maps, wideKeys, modest, calm, conditions, laid).
  DERIVED. THE GIVEN ROWS OF THIS SEAT. 6 by the template 'for every input the law returns true; each argument reads behind the call as it read before'; 0 by the template 'total and deterministic' (their statements: Qxb6603776aTotals.lean).
  GIVEN WITH THE SEED: the statements are not yours to turn. If you find one false, say at which input.
  Laid BY PROGRAM, IN A SANDBOX (cutbox-rows.mjs): the forced cells as the released guide's own fill.sh prints them over the translation 5920548beae91678… (all of the seat's roots in one cut). By AI agents, Wed Nov 11 2026. No macro, syntax, notation, axiom, sorry.
-/
import Derived.Test.Qxb6603776aChecked
import GoSem.Claim
import GoSem.ClaimJoined
import GoSem.ClaimMapViews
import Derived.JoinedTies
import Derived.KernelRfl
namespace Go.Proofs.Qxb6603776a
/- THE CELL 'sum', in the pinned program and in every row, IS THE sha256 OF THE DUMP (.gsa) THAT Qxb6603776aProg.lean LOADS. Nothing in Lean hashes anything: it is a label: what it is worth is what the hold of that sum in a sandbox is worth. -/
noncomputable def Try.pinned : Pinned := { name := "qxb6603776a", sum := "5920548beae91678e1897698ba5a6ec2588eea6d8ebb2bb57b3fd373dcc98af7", checked := Try.checked }
namespace Rows
def none {H : Type} : Left H := { results := [], args := [] }

/-- 'zzlaws_internal_ctlseq_b1.FnEscapeScriptIntermediates': WHATEVER THE INPUT: true; the input reads as it did. -/
def fnEscapeScriptIntermediatesSpec : ChangeSpec := { name := "fnEscapeScriptIntermediates", fn := fun _ => fun
  | [d1, d2] => { results := [.lit (.bool true)], args := [d1, d2] }
  | _ => none }
def fnEscapeScriptIntermediatesRow : OpenClaim := { program := "qxb6603776a", sum := "5920548beae91678e1897698ba5a6ec2588eea6d8ebb2bb57b3fd373dcc98af7", func := "example.com/sideband/sideband/zzlaws_internal_ctlseq_b1.FnEscapeScriptIntermediates", spec := "fnEscapeScriptIntermediates", apart := false }
def FnEscapeScriptIntermediatesSaid : Prop := fnEscapeScriptIntermediatesRow.holds Try.pinned (OpenSpec.ofChange fnEscapeScriptIntermediatesSpec)

/-- ITS FALSE NEIGHBOUR: 'it returns false'. Refute it at one input. -/
def fnEscapeScriptIntermediatesWrong : ChangeSpec := { name := "fnEscapeScriptIntermediates", fn := fun _ => fun
  | [d1, d2] => { results := [.lit (.bool false)], args := [d1, d2] }
  | _ => none }
def FnEscapeScriptIntermediatesWrongFalsely : Prop := fnEscapeScriptIntermediatesRow.holds Try.pinned (OpenSpec.ofChange fnEscapeScriptIntermediatesWrong)

/-- 'zzlaws_internal_ctlseq_b1.FnEscapeByteFrame': WHATEVER THE INPUT: true; the input reads as it did. -/
def fnEscapeByteFrameSpec : ChangeSpec := { name := "fnEscapeByteFrame", fn := fun _ => fun
  | [d1, d2] => { results := [.lit (.bool true)], args := [d1, d2] }
  | _ => none }
def fnEscapeByteFrameRow : OpenClaim := { program := "qxb6603776a", sum := "5920548beae91678e1897698ba5a6ec2588eea6d8ebb2bb57b3fd373dcc98af7", func := "example.com/sideband/sideband/zzlaws_internal_ctlseq_b1.FnEscapeByteFrame", spec := "fnEscapeByteFrame", apart := false }
def FnEscapeByteFrameSaid : Prop := fnEscapeByteFrameRow.holds Try.pinned (OpenSpec.ofChange fnEscapeByteFrameSpec)

/-- ITS FALSE NEIGHBOUR: 'it returns false'. Refute it at one input. -/
def fnEscapeByteFrameWrong : ChangeSpec := { name := "fnEscapeByteFrame", fn := fun _ => fun
  | [d1, d2] => { results := [.lit (.bool false)], args := [d1, d2] }
  | _ => none }
def FnEscapeByteFrameWrongFalsely : Prop := fnEscapeByteFrameRow.holds Try.pinned (OpenSpec.ofChange fnEscapeByteFrameWrong)

/-- 'zzlaws_internal_ctlseq_b1.FnSequenceParamsRoundTrip': WHATEVER THE INPUT: true; the input reads as it did. -/
def fnSequenceParamsRoundTripSpec : ChangeSpec := { name := "fnSequenceParamsRoundTrip", fn := fun _ => fun
  | [d1, d2, d3] => { results := [.lit (.bool true)], args := [d1, d2, d3] }
  | _ => none }
def fnSequenceParamsRoundTripRow : OpenClaim := { program := "qxb6603776a", sum := "5920548beae91678e1897698ba5a6ec2588eea6d8ebb2bb57b3fd373dcc98af7", func := "example.com/sideband/sideband/zzlaws_internal_ctlseq_b1.FnSequenceParamsRoundTrip", spec := "fnSequenceParamsRoundTrip", apart := false }
def FnSequenceParamsRoundTripSaid : Prop := fnSequenceParamsRoundTripRow.holds Try.pinned (OpenSpec.ofChange fnSequenceParamsRoundTripSpec)

/-- ITS FALSE NEIGHBOUR: 'it returns false'. Refute it at one input. -/
def fnSequenceParamsRoundTripWrong : ChangeSpec := { name := "fnSequenceParamsRoundTrip", fn := fun _ => fun
  | [d1, d2, d3] => { results := [.lit (.bool false)], args := [d1, d2, d3] }
  | _ => none }
def FnSequenceParamsRoundTripWrongFalsely : Prop := fnSequenceParamsRoundTripRow.holds Try.pinned (OpenSpec.ofChange fnSequenceParamsRoundTripWrong)

/-- 'zzlaws_internal_ctlseq_b1.FnSequenceByteFrame': WHATEVER THE INPUT: true; the input reads as it did. -/
def fnSequenceByteFrameSpec : ChangeSpec := { name := "fnSequenceByteFrame", fn := fun _ => fun
  | [d1, d2] => { results := [.lit (.bool true)], args := [d1, d2] }
  | _ => none }
def fnSequenceByteFrameRow : OpenClaim := { program := "qxb6603776a", sum := "5920548beae91678e1897698ba5a6ec2588eea6d8ebb2bb57b3fd373dcc98af7", func := "example.com/sideband/sideband/zzlaws_internal_ctlseq_b1.FnSequenceByteFrame", spec := "fnSequenceByteFrame", apart := false }
def FnSequenceByteFrameSaid : Prop := fnSequenceByteFrameRow.holds Try.pinned (OpenSpec.ofChange fnSequenceByteFrameSpec)

/-- ITS FALSE NEIGHBOUR: 'it returns false'. Refute it at one input. -/
def fnSequenceByteFrameWrong : ChangeSpec := { name := "fnSequenceByteFrame", fn := fun _ => fun
  | [d1, d2] => { results := [.lit (.bool false)], args := [d1, d2] }
  | _ => none }
def FnSequenceByteFrameWrongFalsely : Prop := fnSequenceByteFrameRow.holds Try.pinned (OpenSpec.ofChange fnSequenceByteFrameWrong)

/-- 'zzlaws_internal_ctlseq_b1.FnParamByteSplitModel': WHATEVER THE INPUT: true; the input reads as it did. -/
def fnParamByteSplitModelSpec : ChangeSpec := { name := "fnParamByteSplitModel", fn := fun _ => fun
  | [d] => { results := [.lit (.bool true)], args := [d] }
  | _ => none }
def fnParamByteSplitModelRow : OpenClaim := { program := "qxb6603776a", sum := "5920548beae91678e1897698ba5a6ec2588eea6d8ebb2bb57b3fd373dcc98af7", func := "example.com/sideband/sideband/zzlaws_internal_ctlseq_b1.FnParamByteSplitModel", spec := "fnParamByteSplitModel", apart := false }
def FnParamByteSplitModelSaid : Prop := fnParamByteSplitModelRow.holds Try.pinned (OpenSpec.ofChange fnParamByteSplitModelSpec)

/-- ITS FALSE NEIGHBOUR: 'it returns false'. Refute it at one input. -/
def fnParamByteSplitModelWrong : ChangeSpec := { name := "fnParamByteSplitModel", fn := fun _ => fun
  | [d] => { results := [.lit (.bool false)], args := [d] }
  | _ => none }
def FnParamByteSplitModelWrongFalsely : Prop := fnParamByteSplitModelRow.holds Try.pinned (OpenSpec.ofChange fnParamByteSplitModelWrong)

/-- 'zzlaws_internal_ctlseq_b1.FnParamByteFrame': WHATEVER THE INPUT: true; the input reads as it did. -/
def fnParamByteFrameSpec : ChangeSpec := { name := "fnParamByteFrame", fn := fun _ => fun
  | [d1, d2] => { results := [.lit (.bool true)], args := [d1, d2] }
  | _ => none }
def fnParamByteFrameRow : OpenClaim := { program := "qxb6603776a", sum := "5920548beae91678e1897698ba5a6ec2588eea6d8ebb2bb57b3fd373dcc98af7", func := "example.com/sideband/sideband/zzlaws_internal_ctlseq_b1.FnParamByteFrame", spec := "fnParamByteFrame", apart := false }
def FnParamByteFrameSaid : Prop := fnParamByteFrameRow.holds Try.pinned (OpenSpec.ofChange fnParamByteFrameSpec)

/-- ITS FALSE NEIGHBOUR: 'it returns false'. Refute it at one input. -/
def fnParamByteFrameWrong : ChangeSpec := { name := "fnParamByteFrame", fn := fun _ => fun
  | [d1, d2] => { results := [.lit (.bool false)], args := [d1, d2] }
  | _ => none }
def FnParamByteFrameWrongFalsely : Prop := fnParamByteFrameRow.holds Try.pinned (OpenSpec.ofChange fnParamByteFrameWrong)

end Rows
end Go.Proofs.Qxb6603776a

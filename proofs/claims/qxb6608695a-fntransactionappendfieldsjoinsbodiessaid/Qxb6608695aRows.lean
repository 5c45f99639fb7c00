/-
  No cell of these rows narrows 'for every input' (looked for: loops, veiled, ifaces, maps, wideKeys, modest, calm, conditions, laid).
  DERIVED. THE GIVEN ROWS OF THIS SEAT. 6 by the template 'for every input the law returns true; each argument reads behind the call as it read before'; 0 by the template 'total and deterministic' (their statements: Qxb6608695aTotals.lean).
  GIVEN WITH THE SEED: the statements are not yours to turn. If you find one false, say at which input.
  Laid BY PROGRAM, IN A SANDBOX (cutbox-rows.mjs): the forced cells as the released guide's own fill.sh prints them over the translation 372311fe0868a295… (all of the seat's roots in one cut). By AI agents, Wed Nov 11 2026. No macro, syntax, notation, axiom, sorry.
-/
import Derived.Test.Qxb6608695aChecked
import GoSem.Claim
import GoSem.ClaimJoined
import GoSem.ClaimMapViews
import Derived.JoinedTies
import Derived.KernelRfl
namespace Go.Proofs.Qxb6608695a
/- THE CELL 'sum', in the pinned program and in every row, IS THE sha256 OF THE DUMP (.gsa) THAT Qxb6608695aProg.lean LOADS. Nothing in Lean hashes anything: it is a label: what it is worth is what the hold of that sum in a sandbox is worth. -/
noncomputable def Try.pinned : Pinned := { name := "qxb6608695a", sum := "372311fe0868a295a421f6b96133e62a528caaa09828a7391a6b743b367c048a", checked := Try.checked }
namespace Rows
def none {H : Type} : Left H := { results := [], args := [] }

/-- 'zzlaws_wire_b1.FnAppendAvailabilityReadsBackThroughDecoder': WHATEVER THE INPUT: true; the input reads as it did. -/
def fnAppendAvailabilityReadsBackThroughDecoderSpec : ChangeSpec := { name := "fnAppendAvailabilityReadsBackThroughDecoder", fn := fun _ => fun
  | [d1, d2, d3, d4, d5] => { results := [.lit (.bool true)], args := [d1, d2, d3, d4, d5] }
  | _ => none }
def fnAppendAvailabilityReadsBackThroughDecoderRow : OpenClaim := { program := "qxb6608695a", sum := "372311fe0868a295a421f6b96133e62a528caaa09828a7391a6b743b367c048a", func := "example.com/peerwalk/peerwalk/zzlaws_wire_b1.FnAppendAvailabilityReadsBackThroughDecoder", spec := "fnAppendAvailabilityReadsBackThroughDecoder", apart := false }
def FnAppendAvailabilityReadsBackThroughDecoderSaid : Prop := fnAppendAvailabilityReadsBackThroughDecoderRow.holds Try.pinned (OpenSpec.ofChange fnAppendAvailabilityReadsBackThroughDecoderSpec)

/-- ITS FALSE NEIGHBOUR: 'it returns false'. Refute it at one input. -/
def fnAppendAvailabilityReadsBackThroughDecoderWrong : ChangeSpec := { name := "fnAppendAvailabilityReadsBackThroughDecoder", fn := fun _ => fun
  | [d1, d2, d3, d4, d5] => { results := [.lit (.bool false)], args := [d1, d2, d3, d4, d5] }
  | _ => none }
def FnAppendAvailabilityReadsBackThroughDecoderWrongFalsely : Prop := fnAppendAvailabilityReadsBackThroughDecoderRow.holds Try.pinned (OpenSpec.ofChange fnAppendAvailabilityReadsBackThroughDecoderWrong)

/-- 'zzlaws_wire_b1.FnAppendAvailabilityKeepsAnyPrefix': WHATEVER THE INPUT: true; the input reads as it did. -/
def fnAppendAvailabilityKeepsAnyPrefixSpec : ChangeSpec := { name := "fnAppendAvailabilityKeepsAnyPrefix", fn := fun _ => fun
  | [d1, d2, d3, d4] => { results := [.lit (.bool true)], args := [d1, d2, d3, d4] }
  | _ => none }
def fnAppendAvailabilityKeepsAnyPrefixRow : OpenClaim := { program := "qxb6608695a", sum := "372311fe0868a295a421f6b96133e62a528caaa09828a7391a6b743b367c048a", func := "example.com/peerwalk/peerwalk/zzlaws_wire_b1.FnAppendAvailabilityKeepsAnyPrefix", spec := "fnAppendAvailabilityKeepsAnyPrefix", apart := false }
def FnAppendAvailabilityKeepsAnyPrefixSaid : Prop := fnAppendAvailabilityKeepsAnyPrefixRow.holds Try.pinned (OpenSpec.ofChange fnAppendAvailabilityKeepsAnyPrefixSpec)

/-- ITS FALSE NEIGHBOUR: 'it returns false'. Refute it at one input. -/
def fnAppendAvailabilityKeepsAnyPrefixWrong : ChangeSpec := { name := "fnAppendAvailabilityKeepsAnyPrefix", fn := fun _ => fun
  | [d1, d2, d3, d4] => { results := [.lit (.bool false)], args := [d1, d2, d3, d4] }
  | _ => none }
def FnAppendAvailabilityKeepsAnyPrefixWrongFalsely : Prop := fnAppendAvailabilityKeepsAnyPrefixRow.holds Try.pinned (OpenSpec.ofChange fnAppendAvailabilityKeepsAnyPrefixWrong)

/-- 'zzlaws_wire_b1.FnTransactionPayloadIsTypeByteThenBody': WHATEVER THE INPUT: true; the input reads as it did. -/
def fnTransactionPayloadIsTypeByteThenBodySpec : ChangeSpec := { name := "fnTransactionPayloadIsTypeByteThenBody", fn := fun _ => fun
  | [d1, d2] => { results := [.lit (.bool true)], args := [d1, d2] }
  | _ => none }
def fnTransactionPayloadIsTypeByteThenBodyRow : OpenClaim := { program := "qxb6608695a", sum := "372311fe0868a295a421f6b96133e62a528caaa09828a7391a6b743b367c048a", func := "example.com/peerwalk/peerwalk/zzlaws_wire_b1.FnTransactionPayloadIsTypeByteThenBody", spec := "fnTransactionPayloadIsTypeByteThenBody", apart := false }
def FnTransactionPayloadIsTypeByteThenBodySaid : Prop := fnTransactionPayloadIsTypeByteThenBodyRow.holds Try.pinned (OpenSpec.ofChange fnTransactionPayloadIsTypeByteThenBodySpec)

/-- ITS FALSE NEIGHBOUR: 'it returns false'. Refute it at one input. -/
def fnTransactionPayloadIsTypeByteThenBodyWrong : ChangeSpec := { name := "fnTransactionPayloadIsTypeByteThenBody", fn := fun _ => fun
  | [d1, d2] => { results := [.lit (.bool false)], args := [d1, d2] }
  | _ => none }
def FnTransactionPayloadIsTypeByteThenBodyWrongFalsely : Prop := fnTransactionPayloadIsTypeByteThenBodyRow.holds Try.pinned (OpenSpec.ofChange fnTransactionPayloadIsTypeByteThenBodyWrong)

/-- 'zzlaws_wire_b1.FnTransactionAppendFieldsJoinsBodies': WHATEVER THE INPUT: true; the input reads as it did. -/
def fnTransactionAppendFieldsJoinsBodiesSpec : ChangeSpec := { name := "fnTransactionAppendFieldsJoinsBodies", fn := fun _ => fun
  | [d1, d2, d3] => { results := [.lit (.bool true)], args := [d1, d2, d3] }
  | _ => none }
def fnTransactionAppendFieldsJoinsBodiesRow : OpenClaim := { program := "qxb6608695a", sum := "372311fe0868a295a421f6b96133e62a528caaa09828a7391a6b743b367c048a", func := "example.com/peerwalk/peerwalk/zzlaws_wire_b1.FnTransactionAppendFieldsJoinsBodies", spec := "fnTransactionAppendFieldsJoinsBodies", apart := false }
def FnTransactionAppendFieldsJoinsBodiesSaid : Prop := fnTransactionAppendFieldsJoinsBodiesRow.holds Try.pinned (OpenSpec.ofChange fnTransactionAppendFieldsJoinsBodiesSpec)

/-- ITS FALSE NEIGHBOUR: 'it returns false'. Refute it at one input. -/
def fnTransactionAppendFieldsJoinsBodiesWrong : ChangeSpec := { name := "fnTransactionAppendFieldsJoinsBodies", fn := fun _ => fun
  | [d1, d2, d3] => { results := [.lit (.bool false)], args := [d1, d2, d3] }
  | _ => none }
def FnTransactionAppendFieldsJoinsBodiesWrongFalsely : Prop := fnTransactionAppendFieldsJoinsBodiesRow.holds Try.pinned (OpenSpec.ofChange fnTransactionAppendFieldsJoinsBodiesWrong)

/-- 'zzlaws_wire_b1.FnDecoderU32ReadsBigEndianWordsInOrder': WHATEVER THE INPUT: true; the input reads as it did. -/
def fnDecoderU32ReadsBigEndianWordsInOrderSpec : ChangeSpec := { name := "fnDecoderU32ReadsBigEndianWordsInOrder", fn := fun _ => fun
  | [d1, d2] => { results := [.lit (.bool true)], args := [d1, d2] }
  | _ => none }
def fnDecoderU32ReadsBigEndianWordsInOrderRow : OpenClaim := { program := "qxb6608695a", sum := "372311fe0868a295a421f6b96133e62a528caaa09828a7391a6b743b367c048a", func := "example.com/peerwalk/peerwalk/zzlaws_wire_b1.FnDecoderU32ReadsBigEndianWordsInOrder", spec := "fnDecoderU32ReadsBigEndianWordsInOrder", named := ["encoding/binary.BigEndian"], apart := false }
def FnDecoderU32ReadsBigEndianWordsInOrderSaid : Prop := fnDecoderU32ReadsBigEndianWordsInOrderRow.holds Try.pinned (OpenSpec.ofChange fnDecoderU32ReadsBigEndianWordsInOrderSpec)

/-- ITS FALSE NEIGHBOUR: 'it returns false'. Refute it at one input. -/
def fnDecoderU32ReadsBigEndianWordsInOrderWrong : ChangeSpec := { name := "fnDecoderU32ReadsBigEndianWordsInOrder", fn := fun _ => fun
  | [d1, d2] => { results := [.lit (.bool false)], args := [d1, d2] }
  | _ => none }
def FnDecoderU32ReadsBigEndianWordsInOrderWrongFalsely : Prop := fnDecoderU32ReadsBigEndianWordsInOrderRow.holds Try.pinned (OpenSpec.ofChange fnDecoderU32ReadsBigEndianWordsInOrderWrong)

/-- 'zzlaws_wire_b1.FnDecoderU32AtAnyOffsetAndAfterOverrun': WHATEVER THE INPUT: true; the input reads as it did. -/
def fnDecoderU32AtAnyOffsetAndAfterOverrunSpec : ChangeSpec := { name := "fnDecoderU32AtAnyOffsetAndAfterOverrun", fn := fun _ => fun
  | [d1, d2] => { results := [.lit (.bool true)], args := [d1, d2] }
  | _ => none }
def fnDecoderU32AtAnyOffsetAndAfterOverrunRow : OpenClaim := { program := "qxb6608695a", sum := "372311fe0868a295a421f6b96133e62a528caaa09828a7391a6b743b367c048a", func := "example.com/peerwalk/peerwalk/zzlaws_wire_b1.FnDecoderU32AtAnyOffsetAndAfterOverrun", spec := "fnDecoderU32AtAnyOffsetAndAfterOverrun", named := ["encoding/binary.BigEndian"], apart := false }
def FnDecoderU32AtAnyOffsetAndAfterOverrunSaid : Prop := fnDecoderU32AtAnyOffsetAndAfterOverrunRow.holds Try.pinned (OpenSpec.ofChange fnDecoderU32AtAnyOffsetAndAfterOverrunSpec)

/-- ITS FALSE NEIGHBOUR: 'it returns false'. Refute it at one input. -/
def fnDecoderU32AtAnyOffsetAndAfterOverrunWrong : ChangeSpec := { name := "fnDecoderU32AtAnyOffsetAndAfterOverrun", fn := fun _ => fun
  | [d1, d2] => { results := [.lit (.bool false)], args := [d1, d2] }
  | _ => none }
def FnDecoderU32AtAnyOffsetAndAfterOverrunWrongFalsely : Prop := fnDecoderU32AtAnyOffsetAndAfterOverrunRow.holds Try.pinned (OpenSpec.ofChange fnDecoderU32AtAnyOffsetAndAfterOverrunWrong)

end Rows
end Go.Proofs.Qxb6608695a

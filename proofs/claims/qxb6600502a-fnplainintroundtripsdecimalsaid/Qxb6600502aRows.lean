/-
  No cell of these rows narrows 'for every input' (looked for: loops, veiled, ifaces, maps, wideKeys, modest, calm, conditions, laid).
  DERIVED. THE GIVEN ROWS OF THIS SEAT. 7 by the template 'for every input the law returns true; each argument reads behind the call as it read before'; 0 by the template 'total and deterministic' (their statements: Qxb6600502aTotals.lean).
  GIVEN WITH THE SEED: the statements are not yours to turn. If you find one false, say at which input.
  Laid BY PROGRAM, IN A SANDBOX (cutbox-rows.mjs): the forced cells as the released guide's own fill.sh prints them over the translation 40b46f9670bafabe… (all of the seat's roots in one cut). By AI agents, Wed Nov 11 2026. No macro, syntax, notation, axiom, sorry.
-/
import Derived.Test.Qxb6600502aChecked
import GoSem.Claim
import GoSem.ClaimJoined
import GoSem.ClaimMapViews
import Derived.JoinedTies
import Derived.KernelRfl
namespace Go.Proofs.Qxb6600502a
/- THE CELL 'sum', in the pinned program and in every row, IS THE sha256 OF THE DUMP (.gsa) THAT Qxb6600502aProg.lean LOADS. Nothing in Lean hashes anything: it is a label: what it is worth is what the hold of that sum in a sandbox is worth. -/
noncomputable def Try.pinned : Pinned := { name := "qxb6600502a", sum := "40b46f9670bafabeb368ef7ab5db7617be6a7c619e430957822f95729aff3bc8", checked := Try.checked }
namespace Rows
def none {H : Type} : Left H := { results := [], args := [] }

/-- 'zzlaws_internal_protocol_b1.FnScanNumberMatchesNumberAutomaton': WHATEVER THE INPUT: true; the input reads as it did. -/
def fnScanNumberMatchesNumberAutomatonSpec : ChangeSpec := { name := "fnScanNumberMatchesNumberAutomaton", fn := fun _ => fun
  | [d] => { results := [.lit (.bool true)], args := [d] }
  | _ => none }
def fnScanNumberMatchesNumberAutomatonRow : OpenClaim := { program := "qxb6600502a", sum := "40b46f9670bafabeb368ef7ab5db7617be6a7c619e430957822f95729aff3bc8", func := "example.com/hubferry/hubferry/zzlaws_internal_protocol_b1.FnScanNumberMatchesNumberAutomaton", spec := "fnScanNumberMatchesNumberAutomaton", apart := false }
def FnScanNumberMatchesNumberAutomatonSaid : Prop := fnScanNumberMatchesNumberAutomatonRow.holds Try.pinned (OpenSpec.ofChange fnScanNumberMatchesNumberAutomatonSpec)

/-- ITS FALSE NEIGHBOUR: 'it returns false'. Refute it at one input. -/
def fnScanNumberMatchesNumberAutomatonWrong : ChangeSpec := { name := "fnScanNumberMatchesNumberAutomaton", fn := fun _ => fun
  | [d] => { results := [.lit (.bool false)], args := [d] }
  | _ => none }
def FnScanNumberMatchesNumberAutomatonWrongFalsely : Prop := fnScanNumberMatchesNumberAutomatonRow.holds Try.pinned (OpenSpec.ofChange fnScanNumberMatchesNumberAutomatonWrong)

/-- 'zzlaws_internal_protocol_b1.FnScanNumberMatchIsStable': WHATEVER THE INPUT: true; the input reads as it did. -/
def fnScanNumberMatchIsStableSpec : ChangeSpec := { name := "fnScanNumberMatchIsStable", fn := fun _ => fun
  | [d1, d2] => { results := [.lit (.bool true)], args := [d1, d2] }
  | _ => none }
def fnScanNumberMatchIsStableRow : OpenClaim := { program := "qxb6600502a", sum := "40b46f9670bafabeb368ef7ab5db7617be6a7c619e430957822f95729aff3bc8", func := "example.com/hubferry/hubferry/zzlaws_internal_protocol_b1.FnScanNumberMatchIsStable", spec := "fnScanNumberMatchIsStable", apart := false }
def FnScanNumberMatchIsStableSaid : Prop := fnScanNumberMatchIsStableRow.holds Try.pinned (OpenSpec.ofChange fnScanNumberMatchIsStableSpec)

/-- ITS FALSE NEIGHBOUR: 'it returns false'. Refute it at one input. -/
def fnScanNumberMatchIsStableWrong : ChangeSpec := { name := "fnScanNumberMatchIsStable", fn := fun _ => fun
  | [d1, d2] => { results := [.lit (.bool false)], args := [d1, d2] }
  | _ => none }
def FnScanNumberMatchIsStableWrongFalsely : Prop := fnScanNumberMatchIsStableRow.holds Try.pinned (OpenSpec.ofChange fnScanNumberMatchIsStableWrong)

/-- 'zzlaws_internal_protocol_b1.FnPlainIntMatchesDigitModel': WHATEVER THE INPUT: true; the input reads as it did. -/
def fnPlainIntMatchesDigitModelSpec : ChangeSpec := { name := "fnPlainIntMatchesDigitModel", fn := fun _ => fun
  | [d] => { results := [.lit (.bool true)], args := [d] }
  | _ => none }
def fnPlainIntMatchesDigitModelRow : OpenClaim := { program := "qxb6600502a", sum := "40b46f9670bafabeb368ef7ab5db7617be6a7c619e430957822f95729aff3bc8", func := "example.com/hubferry/hubferry/zzlaws_internal_protocol_b1.FnPlainIntMatchesDigitModel", spec := "fnPlainIntMatchesDigitModel", apart := false }
def FnPlainIntMatchesDigitModelSaid : Prop := fnPlainIntMatchesDigitModelRow.holds Try.pinned (OpenSpec.ofChange fnPlainIntMatchesDigitModelSpec)

/-- ITS FALSE NEIGHBOUR: 'it returns false'. Refute it at one input. -/
def fnPlainIntMatchesDigitModelWrong : ChangeSpec := { name := "fnPlainIntMatchesDigitModel", fn := fun _ => fun
  | [d] => { results := [.lit (.bool false)], args := [d] }
  | _ => none }
def FnPlainIntMatchesDigitModelWrongFalsely : Prop := fnPlainIntMatchesDigitModelRow.holds Try.pinned (OpenSpec.ofChange fnPlainIntMatchesDigitModelWrong)

/-- 'zzlaws_internal_protocol_b1.FnPlainIntRoundTripsDecimal': WHATEVER THE INPUT: true; the input reads as it did. -/
def fnPlainIntRoundTripsDecimalSpec : ChangeSpec := { name := "fnPlainIntRoundTripsDecimal", fn := fun _ => fun
  | [d] => { results := [.lit (.bool true)], args := [d] }
  | _ => none }
def fnPlainIntRoundTripsDecimalRow : OpenClaim := { program := "qxb6600502a", sum := "40b46f9670bafabeb368ef7ab5db7617be6a7c619e430957822f95729aff3bc8", func := "example.com/hubferry/hubferry/zzlaws_internal_protocol_b1.FnPlainIntRoundTripsDecimal", spec := "fnPlainIntRoundTripsDecimal", apart := false }
def FnPlainIntRoundTripsDecimalSaid : Prop := fnPlainIntRoundTripsDecimalRow.holds Try.pinned (OpenSpec.ofChange fnPlainIntRoundTripsDecimalSpec)

/-- ITS FALSE NEIGHBOUR: 'it returns false'. Refute it at one input. -/
def fnPlainIntRoundTripsDecimalWrong : ChangeSpec := { name := "fnPlainIntRoundTripsDecimal", fn := fun _ => fun
  | [d] => { results := [.lit (.bool false)], args := [d] }
  | _ => none }
def FnPlainIntRoundTripsDecimalWrongFalsely : Prop := fnPlainIntRoundTripsDecimalRow.holds Try.pinned (OpenSpec.ofChange fnPlainIntRoundTripsDecimalWrong)

/-- 'zzlaws_internal_protocol_b1.FnPlainIntNegationFlipsSign': WHATEVER THE INPUT: true; the input reads as it did. -/
def fnPlainIntNegationFlipsSignSpec : ChangeSpec := { name := "fnPlainIntNegationFlipsSign", fn := fun _ => fun
  | [d] => { results := [.lit (.bool true)], args := [d] }
  | _ => none }
def fnPlainIntNegationFlipsSignRow : OpenClaim := { program := "qxb6600502a", sum := "40b46f9670bafabeb368ef7ab5db7617be6a7c619e430957822f95729aff3bc8", func := "example.com/hubferry/hubferry/zzlaws_internal_protocol_b1.FnPlainIntNegationFlipsSign", spec := "fnPlainIntNegationFlipsSign", apart := false }
def FnPlainIntNegationFlipsSignSaid : Prop := fnPlainIntNegationFlipsSignRow.holds Try.pinned (OpenSpec.ofChange fnPlainIntNegationFlipsSignSpec)

/-- ITS FALSE NEIGHBOUR: 'it returns false'. Refute it at one input. -/
def fnPlainIntNegationFlipsSignWrong : ChangeSpec := { name := "fnPlainIntNegationFlipsSign", fn := fun _ => fun
  | [d] => { results := [.lit (.bool false)], args := [d] }
  | _ => none }
def FnPlainIntNegationFlipsSignWrongFalsely : Prop := fnPlainIntNegationFlipsSignRow.holds Try.pinned (OpenSpec.ofChange fnPlainIntNegationFlipsSignWrong)

/-- 'zzlaws_internal_protocol_b1.FnFrameIsLengthPrefixedMessage': WHATEVER THE INPUT: true; the input reads as it did. -/
def fnFrameIsLengthPrefixedMessageSpec : ChangeSpec := { name := "fnFrameIsLengthPrefixedMessage", fn := fun _ => fun
  | [d] => { results := [.lit (.bool true)], args := [d] }
  | _ => none }
def fnFrameIsLengthPrefixedMessageRow : OpenClaim := { program := "qxb6600502a", sum := "40b46f9670bafabeb368ef7ab5db7617be6a7c619e430957822f95729aff3bc8", func := "example.com/hubferry/hubferry/zzlaws_internal_protocol_b1.FnFrameIsLengthPrefixedMessage", spec := "fnFrameIsLengthPrefixedMessage", apart := false }
def FnFrameIsLengthPrefixedMessageSaid : Prop := fnFrameIsLengthPrefixedMessageRow.holds Try.pinned (OpenSpec.ofChange fnFrameIsLengthPrefixedMessageSpec)

/-- ITS FALSE NEIGHBOUR: 'it returns false'. Refute it at one input. -/
def fnFrameIsLengthPrefixedMessageWrong : ChangeSpec := { name := "fnFrameIsLengthPrefixedMessage", fn := fun _ => fun
  | [d] => { results := [.lit (.bool false)], args := [d] }
  | _ => none }
def FnFrameIsLengthPrefixedMessageWrongFalsely : Prop := fnFrameIsLengthPrefixedMessageRow.holds Try.pinned (OpenSpec.ofChange fnFrameIsLengthPrefixedMessageWrong)

/-- 'zzlaws_internal_protocol_b1.FnFrameWritesInPlaceAtRoomEnd': WHATEVER THE INPUT: true; the input reads as it did. -/
def fnFrameWritesInPlaceAtRoomEndSpec : ChangeSpec := { name := "fnFrameWritesInPlaceAtRoomEnd", fn := fun _ => fun
  | [d] => { results := [.lit (.bool true)], args := [d] }
  | _ => none }
def fnFrameWritesInPlaceAtRoomEndRow : OpenClaim := { program := "qxb6600502a", sum := "40b46f9670bafabeb368ef7ab5db7617be6a7c619e430957822f95729aff3bc8", func := "example.com/hubferry/hubferry/zzlaws_internal_protocol_b1.FnFrameWritesInPlaceAtRoomEnd", spec := "fnFrameWritesInPlaceAtRoomEnd", apart := false }
def FnFrameWritesInPlaceAtRoomEndSaid : Prop := fnFrameWritesInPlaceAtRoomEndRow.holds Try.pinned (OpenSpec.ofChange fnFrameWritesInPlaceAtRoomEndSpec)

/-- ITS FALSE NEIGHBOUR: 'it returns false'. Refute it at one input. -/
def fnFrameWritesInPlaceAtRoomEndWrong : ChangeSpec := { name := "fnFrameWritesInPlaceAtRoomEnd", fn := fun _ => fun
  | [d] => { results := [.lit (.bool false)], args := [d] }
  | _ => none }
def FnFrameWritesInPlaceAtRoomEndWrongFalsely : Prop := fnFrameWritesInPlaceAtRoomEndRow.holds Try.pinned (OpenSpec.ofChange fnFrameWritesInPlaceAtRoomEndWrong)

end Rows
end Go.Proofs.Qxb6600502a

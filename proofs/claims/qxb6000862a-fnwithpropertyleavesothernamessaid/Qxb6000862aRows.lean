/-
  No cell of these rows narrows 'for every input' (looked for: loops, veiled, ifaces, maps, wideKeys, modest, calm, conditions, laid).
  DERIVED. THE GIVEN ROWS OF THIS SEAT. 7 by the template 'for every input the law returns true; each argument reads behind the call as it read before'; 0 by the template 'total and deterministic' (their statements: Qxb6000862aTotals.lean).
  GIVEN WITH THE SEED: the statements are not yours to turn. If you find one false, say at which input.
  Laid BY PROGRAM, IN A SANDBOX (cutbox-rows.mjs): the forced cells as the released guide's own fill.sh prints them over the translation 23cf5f37f78658fd… (all of the seat's roots in one cut). By AI agents, Wed Nov 11 2026. No macro, syntax, notation, axiom, sorry.
-/
import Derived.Test.Qxb6000862aChecked
import GoSem.Claim
import GoSem.ClaimJoined
import GoSem.ClaimMapViews
import Derived.JoinedTies
import Derived.KernelRfl
namespace Go.Proofs.Qxb6000862a
/- THE CELL 'sum', in the pinned program and in every row, IS THE sha256 OF THE DUMP (.gsa) THAT Qxb6000862aProg.lean LOADS. Nothing in Lean hashes anything: it is a label: what it is worth is what the hold of that sum in a sandbox is worth. -/
noncomputable def Try.pinned : Pinned := { name := "qxb6000862a", sum := "23cf5f37f78658fd76259c4444a1a51de8807db6c1f18a2438d12e495482abc7", checked := Try.checked }
namespace Rows
def none {H : Type} : Left H := { results := [], args := [] }

/-- 'zzlaws_internal_wire_b1.FnHex4RoundTripsFourDigits': WHATEVER THE INPUT: true; the input reads as it did. -/
def fnHex4RoundTripsFourDigitsSpec : ChangeSpec := { name := "fnHex4RoundTripsFourDigits", fn := fun _ => fun
  | [d1, d2, d3] => { results := [.lit (.bool true)], args := [d1, d2, d3] }
  | _ => none }
def fnHex4RoundTripsFourDigitsRow : OpenClaim := { program := "qxb6000862a", sum := "23cf5f37f78658fd76259c4444a1a51de8807db6c1f18a2438d12e495482abc7", func := "example.com/halfnote/halfnote/zzlaws_internal_wire_b1.FnHex4RoundTripsFourDigits", spec := "fnHex4RoundTripsFourDigits", apart := false }
def FnHex4RoundTripsFourDigitsSaid : Prop := fnHex4RoundTripsFourDigitsRow.holds Try.pinned (OpenSpec.ofChange fnHex4RoundTripsFourDigitsSpec)

/-- ITS FALSE NEIGHBOUR: 'it returns false'. Refute it at one input. -/
def fnHex4RoundTripsFourDigitsWrong : ChangeSpec := { name := "fnHex4RoundTripsFourDigits", fn := fun _ => fun
  | [d1, d2, d3] => { results := [.lit (.bool false)], args := [d1, d2, d3] }
  | _ => none }
def FnHex4RoundTripsFourDigitsWrongFalsely : Prop := fnHex4RoundTripsFourDigitsRow.holds Try.pinned (OpenSpec.ofChange fnHex4RoundTripsFourDigitsWrong)

/-- 'zzlaws_internal_wire_b1.FnHex4AcceptsExactlyHexPrefix': WHATEVER THE INPUT: true; the input reads as it did. -/
def fnHex4AcceptsExactlyHexPrefixSpec : ChangeSpec := { name := "fnHex4AcceptsExactlyHexPrefix", fn := fun _ => fun
  | [d] => { results := [.lit (.bool true)], args := [d] }
  | _ => none }
def fnHex4AcceptsExactlyHexPrefixRow : OpenClaim := { program := "qxb6000862a", sum := "23cf5f37f78658fd76259c4444a1a51de8807db6c1f18a2438d12e495482abc7", func := "example.com/halfnote/halfnote/zzlaws_internal_wire_b1.FnHex4AcceptsExactlyHexPrefix", spec := "fnHex4AcceptsExactlyHexPrefix", apart := false }
def FnHex4AcceptsExactlyHexPrefixSaid : Prop := fnHex4AcceptsExactlyHexPrefixRow.holds Try.pinned (OpenSpec.ofChange fnHex4AcceptsExactlyHexPrefixSpec)

/-- ITS FALSE NEIGHBOUR: 'it returns false'. Refute it at one input. -/
def fnHex4AcceptsExactlyHexPrefixWrong : ChangeSpec := { name := "fnHex4AcceptsExactlyHexPrefix", fn := fun _ => fun
  | [d] => { results := [.lit (.bool false)], args := [d] }
  | _ => none }
def FnHex4AcceptsExactlyHexPrefixWrongFalsely : Prop := fnHex4AcceptsExactlyHexPrefixRow.holds Try.pinned (OpenSpec.ofChange fnHex4AcceptsExactlyHexPrefixWrong)

/-- 'zzlaws_internal_wire_b1.FnHex4ReadsOnlyFirstFour': WHATEVER THE INPUT: true; the input reads as it did. -/
def fnHex4ReadsOnlyFirstFourSpec : ChangeSpec := { name := "fnHex4ReadsOnlyFirstFour", fn := fun _ => fun
  | [d1, d2] => { results := [.lit (.bool true)], args := [d1, d2] }
  | _ => none }
def fnHex4ReadsOnlyFirstFourRow : OpenClaim := { program := "qxb6000862a", sum := "23cf5f37f78658fd76259c4444a1a51de8807db6c1f18a2438d12e495482abc7", func := "example.com/halfnote/halfnote/zzlaws_internal_wire_b1.FnHex4ReadsOnlyFirstFour", spec := "fnHex4ReadsOnlyFirstFour", apart := false }
def FnHex4ReadsOnlyFirstFourSaid : Prop := fnHex4ReadsOnlyFirstFourRow.holds Try.pinned (OpenSpec.ofChange fnHex4ReadsOnlyFirstFourSpec)

/-- ITS FALSE NEIGHBOUR: 'it returns false'. Refute it at one input. -/
def fnHex4ReadsOnlyFirstFourWrong : ChangeSpec := { name := "fnHex4ReadsOnlyFirstFour", fn := fun _ => fun
  | [d1, d2] => { results := [.lit (.bool false)], args := [d1, d2] }
  | _ => none }
def FnHex4ReadsOnlyFirstFourWrongFalsely : Prop := fnHex4ReadsOnlyFirstFourRow.holds Try.pinned (OpenSpec.ofChange fnHex4ReadsOnlyFirstFourWrong)

/-- 'zzlaws_internal_wire_b1.FnPropertyReadsBackWithProperty': WHATEVER THE INPUT: true; the input reads as it did. -/
def fnPropertyReadsBackWithPropertySpec : ChangeSpec := { name := "fnPropertyReadsBackWithProperty", fn := fun _ => fun
  | [d1, d2, d3] => { results := [.lit (.bool true)], args := [d1, d2, d3] }
  | _ => none }
def fnPropertyReadsBackWithPropertyRow : OpenClaim := { program := "qxb6000862a", sum := "23cf5f37f78658fd76259c4444a1a51de8807db6c1f18a2438d12e495482abc7", func := "example.com/halfnote/halfnote/zzlaws_internal_wire_b1.FnPropertyReadsBackWithProperty", spec := "fnPropertyReadsBackWithProperty", inPlace := ["internal/bytealg.IndexByteString", "internal/bytealg.IndexString", "internal/abi.NoEscape"], named := ["internal/bytealg.MaxLen"], apart := false }
def FnPropertyReadsBackWithPropertySaid : Prop := fnPropertyReadsBackWithPropertyRow.holds Try.pinned (OpenSpec.ofChange fnPropertyReadsBackWithPropertySpec)

/-- ITS FALSE NEIGHBOUR: 'it returns false'. Refute it at one input. -/
def fnPropertyReadsBackWithPropertyWrong : ChangeSpec := { name := "fnPropertyReadsBackWithProperty", fn := fun _ => fun
  | [d1, d2, d3] => { results := [.lit (.bool false)], args := [d1, d2, d3] }
  | _ => none }
def FnPropertyReadsBackWithPropertyWrongFalsely : Prop := fnPropertyReadsBackWithPropertyRow.holds Try.pinned (OpenSpec.ofChange fnPropertyReadsBackWithPropertyWrong)

/-- 'zzlaws_internal_wire_b1.FnPropertyAnswerHoldsNoSeparators': WHATEVER THE INPUT: true; the input reads as it did. -/
def fnPropertyAnswerHoldsNoSeparatorsSpec : ChangeSpec := { name := "fnPropertyAnswerHoldsNoSeparators", fn := fun _ => fun
  | [d1, d2] => { results := [.lit (.bool true)], args := [d1, d2] }
  | _ => none }
def fnPropertyAnswerHoldsNoSeparatorsRow : OpenClaim := { program := "qxb6000862a", sum := "23cf5f37f78658fd76259c4444a1a51de8807db6c1f18a2438d12e495482abc7", func := "example.com/halfnote/halfnote/zzlaws_internal_wire_b1.FnPropertyAnswerHoldsNoSeparators", spec := "fnPropertyAnswerHoldsNoSeparators", inPlace := ["internal/bytealg.IndexByteString", "internal/bytealg.IndexString"], named := ["internal/bytealg.MaxLen"], apart := false }
def FnPropertyAnswerHoldsNoSeparatorsSaid : Prop := fnPropertyAnswerHoldsNoSeparatorsRow.holds Try.pinned (OpenSpec.ofChange fnPropertyAnswerHoldsNoSeparatorsSpec)

/-- ITS FALSE NEIGHBOUR: 'it returns false'. Refute it at one input. -/
def fnPropertyAnswerHoldsNoSeparatorsWrong : ChangeSpec := { name := "fnPropertyAnswerHoldsNoSeparators", fn := fun _ => fun
  | [d1, d2] => { results := [.lit (.bool false)], args := [d1, d2] }
  | _ => none }
def FnPropertyAnswerHoldsNoSeparatorsWrongFalsely : Prop := fnPropertyAnswerHoldsNoSeparatorsRow.holds Try.pinned (OpenSpec.ofChange fnPropertyAnswerHoldsNoSeparatorsWrong)

/-- 'zzlaws_internal_wire_b1.FnWithPropertyLeavesOtherNames': WHATEVER THE INPUT: true; the input reads as it did. -/
def fnWithPropertyLeavesOtherNamesSpec : ChangeSpec := { name := "fnWithPropertyLeavesOtherNames", fn := fun _ => fun
  | [d1, d2, d3, d4] => { results := [.lit (.bool true)], args := [d1, d2, d3, d4] }
  | _ => none }
def fnWithPropertyLeavesOtherNamesRow : OpenClaim := { program := "qxb6000862a", sum := "23cf5f37f78658fd76259c4444a1a51de8807db6c1f18a2438d12e495482abc7", func := "example.com/halfnote/halfnote/zzlaws_internal_wire_b1.FnWithPropertyLeavesOtherNames", spec := "fnWithPropertyLeavesOtherNames", inPlace := ["internal/bytealg.IndexByteString", "internal/bytealg.IndexString", "internal/abi.NoEscape"], named := ["internal/bytealg.MaxLen"], apart := false }
def FnWithPropertyLeavesOtherNamesSaid : Prop := fnWithPropertyLeavesOtherNamesRow.holds Try.pinned (OpenSpec.ofChange fnWithPropertyLeavesOtherNamesSpec)

/-- ITS FALSE NEIGHBOUR: 'it returns false'. Refute it at one input. -/
def fnWithPropertyLeavesOtherNamesWrong : ChangeSpec := { name := "fnWithPropertyLeavesOtherNames", fn := fun _ => fun
  | [d1, d2, d3, d4] => { results := [.lit (.bool false)], args := [d1, d2, d3, d4] }
  | _ => none }
def FnWithPropertyLeavesOtherNamesWrongFalsely : Prop := fnWithPropertyLeavesOtherNamesRow.holds Try.pinned (OpenSpec.ofChange fnWithPropertyLeavesOtherNamesWrong)

/-- 'zzlaws_internal_wire_b1.FnWithPropertyLastWriteWins': WHATEVER THE INPUT: true; the input reads as it did. -/
def fnWithPropertyLastWriteWinsSpec : ChangeSpec := { name := "fnWithPropertyLastWriteWins", fn := fun _ => fun
  | [d1, d2, d3, d4] => { results := [.lit (.bool true)], args := [d1, d2, d3, d4] }
  | _ => none }
def fnWithPropertyLastWriteWinsRow : OpenClaim := { program := "qxb6000862a", sum := "23cf5f37f78658fd76259c4444a1a51de8807db6c1f18a2438d12e495482abc7", func := "example.com/halfnote/halfnote/zzlaws_internal_wire_b1.FnWithPropertyLastWriteWins", spec := "fnWithPropertyLastWriteWins", inPlace := ["internal/bytealg.IndexByteString", "internal/bytealg.IndexString", "internal/abi.NoEscape"], named := ["internal/bytealg.MaxLen"], apart := false }
def FnWithPropertyLastWriteWinsSaid : Prop := fnWithPropertyLastWriteWinsRow.holds Try.pinned (OpenSpec.ofChange fnWithPropertyLastWriteWinsSpec)

/-- ITS FALSE NEIGHBOUR: 'it returns false'. Refute it at one input. -/
def fnWithPropertyLastWriteWinsWrong : ChangeSpec := { name := "fnWithPropertyLastWriteWins", fn := fun _ => fun
  | [d1, d2, d3, d4] => { results := [.lit (.bool false)], args := [d1, d2, d3, d4] }
  | _ => none }
def FnWithPropertyLastWriteWinsWrongFalsely : Prop := fnWithPropertyLastWriteWinsRow.holds Try.pinned (OpenSpec.ofChange fnWithPropertyLastWriteWinsWrong)

end Rows
end Go.Proofs.Qxb6000862a

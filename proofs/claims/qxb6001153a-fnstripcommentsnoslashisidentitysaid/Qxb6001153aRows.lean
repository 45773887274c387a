/-
  No cell of these rows narrows 'for every input' (looked for: loops, veiled, ifaces, maps, wideKeys, modest, calm, conditions, laid).
  DERIVED. THE GIVEN ROWS OF THIS SEAT. 9 by the template 'for every input the law returns true; each argument reads behind the call as it read before'; 0 by the template 'total and deterministic' (their statements: Qxb6001153aTotals.lean).
  GIVEN WITH THE SEED: the statements are not yours to turn. If you find one false, say at which input.
  Laid BY PROGRAM, IN A SANDBOX (cutbox-rows.mjs): the forced cells as the released guide's own fill.sh prints them over the translation 13a44543671e75c2… (all of the seat's roots in one cut). By AI agents, Wed Nov 11 2026. No macro, syntax, notation, axiom, sorry.
-/
import Derived.Test.Qxb6001153aChecked
import GoSem.Claim
import GoSem.ClaimJoined
import GoSem.ClaimMapViews
import Derived.JoinedTies
import Derived.KernelRfl
namespace Go.Proofs.Qxb6001153a
/- THE CELL 'sum', in the pinned program and in every row, IS THE sha256 OF THE DUMP (.gsa) THAT Qxb6001153aProg.lean LOADS. Nothing in Lean hashes anything: it is a label: what it is worth is what the hold of that sum in a sandbox is worth. -/
noncomputable def Try.pinned : Pinned := { name := "qxb6001153a", sum := "13a44543671e75c2d51abb7f516c911268ac7e0020278fbd77d8d924342900d8", checked := Try.checked }
namespace Rows
def none {H : Type} : Left H := { results := [], args := [] }

/-- 'zzlaws_esv_b1.FnQuotedLengthBounds': WHATEVER THE INPUT: true; the input reads as it did. -/
def fnQuotedLengthBoundsSpec : ChangeSpec := { name := "fnQuotedLengthBounds", fn := fun _ => fun
  | [d] => { results := [.lit (.bool true)], args := [d] }
  | _ => none }
def fnQuotedLengthBoundsRow : OpenClaim := { program := "qxb6001153a", sum := "13a44543671e75c2d51abb7f516c911268ac7e0020278fbd77d8d924342900d8", func := "example.com/quillbus/quillbus/zzlaws_esv_b1.FnQuotedLengthBounds", spec := "fnQuotedLengthBounds", apart := false }
def FnQuotedLengthBoundsSaid : Prop := fnQuotedLengthBoundsRow.holds Try.pinned (OpenSpec.ofChange fnQuotedLengthBoundsSpec)

/-- ITS FALSE NEIGHBOUR: 'it returns false'. Refute it at one input. -/
def fnQuotedLengthBoundsWrong : ChangeSpec := { name := "fnQuotedLengthBounds", fn := fun _ => fun
  | [d] => { results := [.lit (.bool false)], args := [d] }
  | _ => none }
def FnQuotedLengthBoundsWrongFalsely : Prop := fnQuotedLengthBoundsRow.holds Try.pinned (OpenSpec.ofChange fnQuotedLengthBoundsWrong)

/-- 'zzlaws_esv_b1.FnQuotedLengthPrefixDecides': WHATEVER THE INPUT: true; the input reads as it did. -/
def fnQuotedLengthPrefixDecidesSpec : ChangeSpec := { name := "fnQuotedLengthPrefixDecides", fn := fun _ => fun
  | [d1, d2, d3] => { results := [.lit (.bool true)], args := [d1, d2, d3] }
  | _ => none }
def fnQuotedLengthPrefixDecidesRow : OpenClaim := { program := "qxb6001153a", sum := "13a44543671e75c2d51abb7f516c911268ac7e0020278fbd77d8d924342900d8", func := "example.com/quillbus/quillbus/zzlaws_esv_b1.FnQuotedLengthPrefixDecides", spec := "fnQuotedLengthPrefixDecides", apart := false }
def FnQuotedLengthPrefixDecidesSaid : Prop := fnQuotedLengthPrefixDecidesRow.holds Try.pinned (OpenSpec.ofChange fnQuotedLengthPrefixDecidesSpec)

/-- ITS FALSE NEIGHBOUR: 'it returns false'. Refute it at one input. -/
def fnQuotedLengthPrefixDecidesWrong : ChangeSpec := { name := "fnQuotedLengthPrefixDecides", fn := fun _ => fun
  | [d1, d2, d3] => { results := [.lit (.bool false)], args := [d1, d2, d3] }
  | _ => none }
def FnQuotedLengthPrefixDecidesWrongFalsely : Prop := fnQuotedLengthPrefixDecidesRow.holds Try.pinned (OpenSpec.ofChange fnQuotedLengthPrefixDecidesWrong)

/-- 'zzlaws_esv_b1.FnStripCommentsKeepsQuoted': WHATEVER THE INPUT: true; the input reads as it did. -/
def fnStripCommentsKeepsQuotedSpec : ChangeSpec := { name := "fnStripCommentsKeepsQuoted", fn := fun _ => fun
  | [d1, d2] => { results := [.lit (.bool true)], args := [d1, d2] }
  | _ => none }
def fnStripCommentsKeepsQuotedRow : OpenClaim := { program := "qxb6001153a", sum := "13a44543671e75c2d51abb7f516c911268ac7e0020278fbd77d8d924342900d8", func := "example.com/quillbus/quillbus/zzlaws_esv_b1.FnStripCommentsKeepsQuoted", spec := "fnStripCommentsKeepsQuoted", inPlace := ["internal/bytealg.IndexByteString", "internal/bytealg.IndexString", "internal/abi.NoEscape"], named := ["internal/bytealg.MaxLen"], apart := false }
def FnStripCommentsKeepsQuotedSaid : Prop := fnStripCommentsKeepsQuotedRow.holds Try.pinned (OpenSpec.ofChange fnStripCommentsKeepsQuotedSpec)

/-- ITS FALSE NEIGHBOUR: 'it returns false'. Refute it at one input. -/
def fnStripCommentsKeepsQuotedWrong : ChangeSpec := { name := "fnStripCommentsKeepsQuoted", fn := fun _ => fun
  | [d1, d2] => { results := [.lit (.bool false)], args := [d1, d2] }
  | _ => none }
def FnStripCommentsKeepsQuotedWrongFalsely : Prop := fnStripCommentsKeepsQuotedRow.holds Try.pinned (OpenSpec.ofChange fnStripCommentsKeepsQuotedWrong)

/-- 'zzlaws_esv_b1.FnStripCommentsNoSlashIsIdentity': WHATEVER THE INPUT: true; the input reads as it did. -/
def fnStripCommentsNoSlashIsIdentitySpec : ChangeSpec := { name := "fnStripCommentsNoSlashIsIdentity", fn := fun _ => fun
  | [d] => { results := [.lit (.bool true)], args := [d] }
  | _ => none }
def fnStripCommentsNoSlashIsIdentityRow : OpenClaim := { program := "qxb6001153a", sum := "13a44543671e75c2d51abb7f516c911268ac7e0020278fbd77d8d924342900d8", func := "example.com/quillbus/quillbus/zzlaws_esv_b1.FnStripCommentsNoSlashIsIdentity", spec := "fnStripCommentsNoSlashIsIdentity", inPlace := ["internal/bytealg.IndexByteString", "internal/bytealg.IndexString", "internal/abi.NoEscape"], named := ["internal/bytealg.MaxLen"], apart := false }
def FnStripCommentsNoSlashIsIdentitySaid : Prop := fnStripCommentsNoSlashIsIdentityRow.holds Try.pinned (OpenSpec.ofChange fnStripCommentsNoSlashIsIdentitySpec)

/-- ITS FALSE NEIGHBOUR: 'it returns false'. Refute it at one input. -/
def fnStripCommentsNoSlashIsIdentityWrong : ChangeSpec := { name := "fnStripCommentsNoSlashIsIdentity", fn := fun _ => fun
  | [d] => { results := [.lit (.bool false)], args := [d] }
  | _ => none }
def FnStripCommentsNoSlashIsIdentityWrongFalsely : Prop := fnStripCommentsNoSlashIsIdentityRow.holds Try.pinned (OpenSpec.ofChange fnStripCommentsNoSlashIsIdentityWrong)

/-- 'zzlaws_esv_b1.FnStripCommentsShape': WHATEVER THE INPUT: true; the input reads as it did. -/
def fnStripCommentsShapeSpec : ChangeSpec := { name := "fnStripCommentsShape", fn := fun _ => fun
  | [d1, d2] => { results := [.lit (.bool true)], args := [d1, d2] }
  | _ => none }
def fnStripCommentsShapeRow : OpenClaim := { program := "qxb6001153a", sum := "13a44543671e75c2d51abb7f516c911268ac7e0020278fbd77d8d924342900d8", func := "example.com/quillbus/quillbus/zzlaws_esv_b1.FnStripCommentsShape", spec := "fnStripCommentsShape", inPlace := ["internal/bytealg.IndexByteString", "internal/bytealg.IndexString", "internal/abi.NoEscape"], named := ["internal/bytealg.MaxLen"], apart := false }
def FnStripCommentsShapeSaid : Prop := fnStripCommentsShapeRow.holds Try.pinned (OpenSpec.ofChange fnStripCommentsShapeSpec)

/-- ITS FALSE NEIGHBOUR: 'it returns false'. Refute it at one input. -/
def fnStripCommentsShapeWrong : ChangeSpec := { name := "fnStripCommentsShape", fn := fun _ => fun
  | [d1, d2] => { results := [.lit (.bool false)], args := [d1, d2] }
  | _ => none }
def FnStripCommentsShapeWrongFalsely : Prop := fnStripCommentsShapeRow.holds Try.pinned (OpenSpec.ofChange fnStripCommentsShapeWrong)

/-- 'zzlaws_esv_b1.FnStripCommentsIdempotent': WHATEVER THE INPUT: true; the input reads as it did. -/
def fnStripCommentsIdempotentSpec : ChangeSpec := { name := "fnStripCommentsIdempotent", fn := fun _ => fun
  | [d1, d2] => { results := [.lit (.bool true)], args := [d1, d2] }
  | _ => none }
def fnStripCommentsIdempotentRow : OpenClaim := { program := "qxb6001153a", sum := "13a44543671e75c2d51abb7f516c911268ac7e0020278fbd77d8d924342900d8", func := "example.com/quillbus/quillbus/zzlaws_esv_b1.FnStripCommentsIdempotent", spec := "fnStripCommentsIdempotent", inPlace := ["internal/bytealg.IndexByteString", "internal/bytealg.IndexString", "internal/abi.NoEscape"], named := ["internal/bytealg.MaxLen"], apart := false }
def FnStripCommentsIdempotentSaid : Prop := fnStripCommentsIdempotentRow.holds Try.pinned (OpenSpec.ofChange fnStripCommentsIdempotentSpec)

/-- ITS FALSE NEIGHBOUR: 'it returns false'. Refute it at one input. -/
def fnStripCommentsIdempotentWrong : ChangeSpec := { name := "fnStripCommentsIdempotent", fn := fun _ => fun
  | [d1, d2] => { results := [.lit (.bool false)], args := [d1, d2] }
  | _ => none }
def FnStripCommentsIdempotentWrongFalsely : Prop := fnStripCommentsIdempotentRow.holds Try.pinned (OpenSpec.ofChange fnStripCommentsIdempotentWrong)

/-- 'zzlaws_esv_b1.FnMergeKeepsEachOnceAndAddsAll': WHATEVER THE INPUT: true; the input reads as it did. -/
def fnMergeKeepsEachOnceAndAddsAllSpec : ChangeSpec := { name := "fnMergeKeepsEachOnceAndAddsAll", fn := fun _ => fun
  | [d1, d2, d3, d4, d5, d6, d7, d8, d9, d10, d11, d12] => { results := [.lit (.bool true)], args := [d1, d2, d3, d4, d5, d6, d7, d8, d9, d10, d11, d12] }
  | _ => none }
def fnMergeKeepsEachOnceAndAddsAllRow : OpenClaim := { program := "qxb6001153a", sum := "13a44543671e75c2d51abb7f516c911268ac7e0020278fbd77d8d924342900d8", func := "example.com/quillbus/quillbus/zzlaws_esv_b1.FnMergeKeepsEachOnceAndAddsAll", spec := "fnMergeKeepsEachOnceAndAddsAll", apart := false }
def FnMergeKeepsEachOnceAndAddsAllSaid : Prop := fnMergeKeepsEachOnceAndAddsAllRow.holds Try.pinned (OpenSpec.ofChange fnMergeKeepsEachOnceAndAddsAllSpec)

/-- ITS FALSE NEIGHBOUR: 'it returns false'. Refute it at one input. -/
def fnMergeKeepsEachOnceAndAddsAllWrong : ChangeSpec := { name := "fnMergeKeepsEachOnceAndAddsAll", fn := fun _ => fun
  | [d1, d2, d3, d4, d5, d6, d7, d8, d9, d10, d11, d12] => { results := [.lit (.bool false)], args := [d1, d2, d3, d4, d5, d6, d7, d8, d9, d10, d11, d12] }
  | _ => none }
def FnMergeKeepsEachOnceAndAddsAllWrongFalsely : Prop := fnMergeKeepsEachOnceAndAddsAllRow.holds Try.pinned (OpenSpec.ofChange fnMergeKeepsEachOnceAndAddsAllWrong)

/-- 'zzlaws_esv_b1.FnMergeIdempotentOnSets': WHATEVER THE INPUT: true; the input reads as it did. -/
def fnMergeIdempotentOnSetsSpec : ChangeSpec := { name := "fnMergeIdempotentOnSets", fn := fun _ => fun
  | [d1, d2, d3, d4, d5, d6, d7, d8, d9, d10, d11, d12] => { results := [.lit (.bool true)], args := [d1, d2, d3, d4, d5, d6, d7, d8, d9, d10, d11, d12] }
  | _ => none }
def fnMergeIdempotentOnSetsRow : OpenClaim := { program := "qxb6001153a", sum := "13a44543671e75c2d51abb7f516c911268ac7e0020278fbd77d8d924342900d8", func := "example.com/quillbus/quillbus/zzlaws_esv_b1.FnMergeIdempotentOnSets", spec := "fnMergeIdempotentOnSets", apart := false }
def FnMergeIdempotentOnSetsSaid : Prop := fnMergeIdempotentOnSetsRow.holds Try.pinned (OpenSpec.ofChange fnMergeIdempotentOnSetsSpec)

/-- ITS FALSE NEIGHBOUR: 'it returns false'. Refute it at one input. -/
def fnMergeIdempotentOnSetsWrong : ChangeSpec := { name := "fnMergeIdempotentOnSets", fn := fun _ => fun
  | [d1, d2, d3, d4, d5, d6, d7, d8, d9, d10, d11, d12] => { results := [.lit (.bool false)], args := [d1, d2, d3, d4, d5, d6, d7, d8, d9, d10, d11, d12] }
  | _ => none }
def FnMergeIdempotentOnSetsWrongFalsely : Prop := fnMergeIdempotentOnSetsRow.holds Try.pinned (OpenSpec.ofChange fnMergeIdempotentOnSetsWrong)

/-- 'zzlaws_esv_b1.FnMergeEmptyIsNeutral': WHATEVER THE INPUT: true; the input reads as it did. -/
def fnMergeEmptyIsNeutralSpec : ChangeSpec := { name := "fnMergeEmptyIsNeutral", fn := fun _ => fun
  | [d1, d2, d3, d4, d5, d6] => { results := [.lit (.bool true)], args := [d1, d2, d3, d4, d5, d6] }
  | _ => none }
def fnMergeEmptyIsNeutralRow : OpenClaim := { program := "qxb6001153a", sum := "13a44543671e75c2d51abb7f516c911268ac7e0020278fbd77d8d924342900d8", func := "example.com/quillbus/quillbus/zzlaws_esv_b1.FnMergeEmptyIsNeutral", spec := "fnMergeEmptyIsNeutral", apart := false }
def FnMergeEmptyIsNeutralSaid : Prop := fnMergeEmptyIsNeutralRow.holds Try.pinned (OpenSpec.ofChange fnMergeEmptyIsNeutralSpec)

/-- ITS FALSE NEIGHBOUR: 'it returns false'. Refute it at one input. -/
def fnMergeEmptyIsNeutralWrong : ChangeSpec := { name := "fnMergeEmptyIsNeutral", fn := fun _ => fun
  | [d1, d2, d3, d4, d5, d6] => { results := [.lit (.bool false)], args := [d1, d2, d3, d4, d5, d6] }
  | _ => none }
def FnMergeEmptyIsNeutralWrongFalsely : Prop := fnMergeEmptyIsNeutralRow.holds Try.pinned (OpenSpec.ofChange fnMergeEmptyIsNeutralWrong)

end Rows
end Go.Proofs.Qxb6001153a

/-
  No cell of these rows narrows 'for every input' (looked for: loops, veiled, ifaces, maps, wideKeys, modest, calm, conditions, laid).
  DERIVED. THE GIVEN ROWS OF THIS SEAT. 6 by the template 'for every input the law returns true; each argument reads behind the call as it read before'; 0 by the template 'total and deterministic' (their statements: Qxb6600667aTotals.lean).
  GIVEN WITH THE SEED: the statements are not yours to turn. If you find one false, say at which input.
  Laid BY PROGRAM, IN A SANDBOX (cutbox-rows.mjs): the forced cells as the released guide's own fill.sh prints them over the translation 8329afe9774b8670… (all of the seat's roots in one cut). By AI agents, Wed Nov 11 2026. No macro, syntax, notation, axiom, sorry.
-/
import Derived.Test.Qxb6600667aChecked
import GoSem.Claim
import GoSem.ClaimJoined
import GoSem.ClaimMapViews
import Derived.JoinedTies
import Derived.KernelRfl
namespace Go.Proofs.Qxb6600667a
/- THE CELL 'sum', in the pinned program and in every row, IS THE sha256 OF THE DUMP (.gsa) THAT Qxb6600667aProg.lean LOADS. Nothing in Lean hashes anything: it is a label: what it is worth is what the hold of that sum in a sandbox is worth. -/
noncomputable def Try.pinned : Pinned := { name := "qxb6600667a", sum := "8329afe9774b86704864603cfa5a60d8060798e6f1d25b05629bff132acfd849", checked := Try.checked }
namespace Rows
def none {H : Type} : Left H := { results := [], args := [] }

/-- 'zzlaws_internal_syntax_b1.FnPunyAdaptMatchesPowerForm': WHATEVER THE INPUT: true; the input reads as it did. -/
def fnPunyAdaptMatchesPowerFormSpec : ChangeSpec := { name := "fnPunyAdaptMatchesPowerForm", fn := fun _ => fun
  | [d1, d2, d3] => { results := [.lit (.bool true)], args := [d1, d2, d3] }
  | _ => none }
def fnPunyAdaptMatchesPowerFormRow : OpenClaim := { program := "qxb6600667a", sum := "8329afe9774b86704864603cfa5a60d8060798e6f1d25b05629bff132acfd849", func := "example.com/profilint/profilint/zzlaws_internal_syntax_b1.FnPunyAdaptMatchesPowerForm", spec := "fnPunyAdaptMatchesPowerForm", apart := false }
def FnPunyAdaptMatchesPowerFormSaid : Prop := fnPunyAdaptMatchesPowerFormRow.holds Try.pinned (OpenSpec.ofChange fnPunyAdaptMatchesPowerFormSpec)

/-- ITS FALSE NEIGHBOUR: 'it returns false'. Refute it at one input. -/
def fnPunyAdaptMatchesPowerFormWrong : ChangeSpec := { name := "fnPunyAdaptMatchesPowerForm", fn := fun _ => fun
  | [d1, d2, d3] => { results := [.lit (.bool false)], args := [d1, d2, d3] }
  | _ => none }
def FnPunyAdaptMatchesPowerFormWrongFalsely : Prop := fnPunyAdaptMatchesPowerFormRow.holds Try.pinned (OpenSpec.ofChange fnPunyAdaptMatchesPowerFormWrong)

/-- 'zzlaws_internal_syntax_b1.FnPunyAdaptGrowsWithDelta': WHATEVER THE INPUT: true; the input reads as it did. -/
def fnPunyAdaptGrowsWithDeltaSpec : ChangeSpec := { name := "fnPunyAdaptGrowsWithDelta", fn := fun _ => fun
  | [d1, d2, d3, d4] => { results := [.lit (.bool true)], args := [d1, d2, d3, d4] }
  | _ => none }
def fnPunyAdaptGrowsWithDeltaRow : OpenClaim := { program := "qxb6600667a", sum := "8329afe9774b86704864603cfa5a60d8060798e6f1d25b05629bff132acfd849", func := "example.com/profilint/profilint/zzlaws_internal_syntax_b1.FnPunyAdaptGrowsWithDelta", spec := "fnPunyAdaptGrowsWithDelta", apart := false }
def FnPunyAdaptGrowsWithDeltaSaid : Prop := fnPunyAdaptGrowsWithDeltaRow.holds Try.pinned (OpenSpec.ofChange fnPunyAdaptGrowsWithDeltaSpec)

/-- ITS FALSE NEIGHBOUR: 'it returns false'. Refute it at one input. -/
def fnPunyAdaptGrowsWithDeltaWrong : ChangeSpec := { name := "fnPunyAdaptGrowsWithDelta", fn := fun _ => fun
  | [d1, d2, d3, d4] => { results := [.lit (.bool false)], args := [d1, d2, d3, d4] }
  | _ => none }
def FnPunyAdaptGrowsWithDeltaWrongFalsely : Prop := fnPunyAdaptGrowsWithDeltaRow.holds Try.pinned (OpenSpec.ofChange fnPunyAdaptGrowsWithDeltaWrong)

/-- 'zzlaws_internal_syntax_b1.FnPunyAdaptFallsWithLengthAndFirst': WHATEVER THE INPUT: true; the input reads as it did. -/
def fnPunyAdaptFallsWithLengthAndFirstSpec : ChangeSpec := { name := "fnPunyAdaptFallsWithLengthAndFirst", fn := fun _ => fun
  | [d1, d2, d3] => { results := [.lit (.bool true)], args := [d1, d2, d3] }
  | _ => none }
def fnPunyAdaptFallsWithLengthAndFirstRow : OpenClaim := { program := "qxb6600667a", sum := "8329afe9774b86704864603cfa5a60d8060798e6f1d25b05629bff132acfd849", func := "example.com/profilint/profilint/zzlaws_internal_syntax_b1.FnPunyAdaptFallsWithLengthAndFirst", spec := "fnPunyAdaptFallsWithLengthAndFirst", apart := false }
def FnPunyAdaptFallsWithLengthAndFirstSaid : Prop := fnPunyAdaptFallsWithLengthAndFirstRow.holds Try.pinned (OpenSpec.ofChange fnPunyAdaptFallsWithLengthAndFirstSpec)

/-- ITS FALSE NEIGHBOUR: 'it returns false'. Refute it at one input. -/
def fnPunyAdaptFallsWithLengthAndFirstWrong : ChangeSpec := { name := "fnPunyAdaptFallsWithLengthAndFirst", fn := fun _ => fun
  | [d1, d2, d3] => { results := [.lit (.bool false)], args := [d1, d2, d3] }
  | _ => none }
def FnPunyAdaptFallsWithLengthAndFirstWrongFalsely : Prop := fnPunyAdaptFallsWithLengthAndFirstRow.holds Try.pinned (OpenSpec.ofChange fnPunyAdaptFallsWithLengthAndFirstWrong)

/-- 'zzlaws_internal_syntax_b1.FnFoldMailboxMatchesGrammarModel': WHATEVER THE INPUT: true; the input reads as it did. -/
def fnFoldMailboxMatchesGrammarModelSpec : ChangeSpec := { name := "fnFoldMailboxMatchesGrammarModel", fn := fun _ => fun
  | [d] => { results := [.lit (.bool true)], args := [d] }
  | _ => none }
def fnFoldMailboxMatchesGrammarModelRow : OpenClaim := { program := "qxb6600667a", sum := "8329afe9774b86704864603cfa5a60d8060798e6f1d25b05629bff132acfd849", func := "example.com/profilint/profilint/zzlaws_internal_syntax_b1.FnFoldMailboxMatchesGrammarModel", spec := "fnFoldMailboxMatchesGrammarModel", inPlace := ["internal/bytealg.IndexByteString", "internal/bytealg.IndexString"], named := ["internal/bytealg.MaxLen"], apart := false }
def FnFoldMailboxMatchesGrammarModelSaid : Prop := fnFoldMailboxMatchesGrammarModelRow.holds Try.pinned (OpenSpec.ofChange fnFoldMailboxMatchesGrammarModelSpec)

/-- ITS FALSE NEIGHBOUR: 'it returns false'. Refute it at one input. -/
def fnFoldMailboxMatchesGrammarModelWrong : ChangeSpec := { name := "fnFoldMailboxMatchesGrammarModel", fn := fun _ => fun
  | [d] => { results := [.lit (.bool false)], args := [d] }
  | _ => none }
def FnFoldMailboxMatchesGrammarModelWrongFalsely : Prop := fnFoldMailboxMatchesGrammarModelRow.holds Try.pinned (OpenSpec.ofChange fnFoldMailboxMatchesGrammarModelWrong)

/-- 'zzlaws_internal_syntax_b1.FnFoldMailboxIdempotentAndOnlyLowers': WHATEVER THE INPUT: true; the input reads as it did. -/
def fnFoldMailboxIdempotentAndOnlyLowersSpec : ChangeSpec := { name := "fnFoldMailboxIdempotentAndOnlyLowers", fn := fun _ => fun
  | [d] => { results := [.lit (.bool true)], args := [d] }
  | _ => none }
def fnFoldMailboxIdempotentAndOnlyLowersRow : OpenClaim := { program := "qxb6600667a", sum := "8329afe9774b86704864603cfa5a60d8060798e6f1d25b05629bff132acfd849", func := "example.com/profilint/profilint/zzlaws_internal_syntax_b1.FnFoldMailboxIdempotentAndOnlyLowers", spec := "fnFoldMailboxIdempotentAndOnlyLowers", inPlace := ["internal/bytealg.IndexByteString", "internal/bytealg.IndexString"], named := ["internal/bytealg.MaxLen"], apart := false }
def FnFoldMailboxIdempotentAndOnlyLowersSaid : Prop := fnFoldMailboxIdempotentAndOnlyLowersRow.holds Try.pinned (OpenSpec.ofChange fnFoldMailboxIdempotentAndOnlyLowersSpec)

/-- ITS FALSE NEIGHBOUR: 'it returns false'. Refute it at one input. -/
def fnFoldMailboxIdempotentAndOnlyLowersWrong : ChangeSpec := { name := "fnFoldMailboxIdempotentAndOnlyLowers", fn := fun _ => fun
  | [d] => { results := [.lit (.bool false)], args := [d] }
  | _ => none }
def FnFoldMailboxIdempotentAndOnlyLowersWrongFalsely : Prop := fnFoldMailboxIdempotentAndOnlyLowersRow.holds Try.pinned (OpenSpec.ofChange fnFoldMailboxIdempotentAndOnlyLowersWrong)

/-- 'zzlaws_internal_syntax_b1.FnFoldMailboxIgnoresDomainCase': WHATEVER THE INPUT: true; the input reads as it did. -/
def fnFoldMailboxIgnoresDomainCaseSpec : ChangeSpec := { name := "fnFoldMailboxIgnoresDomainCase", fn := fun _ => fun
  | [d1, d2] => { results := [.lit (.bool true)], args := [d1, d2] }
  | _ => none }
def fnFoldMailboxIgnoresDomainCaseRow : OpenClaim := { program := "qxb6600667a", sum := "8329afe9774b86704864603cfa5a60d8060798e6f1d25b05629bff132acfd849", func := "example.com/profilint/profilint/zzlaws_internal_syntax_b1.FnFoldMailboxIgnoresDomainCase", spec := "fnFoldMailboxIgnoresDomainCase", inPlace := ["internal/bytealg.IndexByteString", "internal/bytealg.IndexString"], named := ["internal/bytealg.MaxLen"], apart := false }
def FnFoldMailboxIgnoresDomainCaseSaid : Prop := fnFoldMailboxIgnoresDomainCaseRow.holds Try.pinned (OpenSpec.ofChange fnFoldMailboxIgnoresDomainCaseSpec)

/-- ITS FALSE NEIGHBOUR: 'it returns false'. Refute it at one input. -/
def fnFoldMailboxIgnoresDomainCaseWrong : ChangeSpec := { name := "fnFoldMailboxIgnoresDomainCase", fn := fun _ => fun
  | [d1, d2] => { results := [.lit (.bool false)], args := [d1, d2] }
  | _ => none }
def FnFoldMailboxIgnoresDomainCaseWrongFalsely : Prop := fnFoldMailboxIgnoresDomainCaseRow.holds Try.pinned (OpenSpec.ofChange fnFoldMailboxIgnoresDomainCaseWrong)

end Rows
end Go.Proofs.Qxb6600667a

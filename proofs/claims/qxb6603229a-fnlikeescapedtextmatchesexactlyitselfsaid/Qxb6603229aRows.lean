/-
  No cell of these rows narrows 'for every input' (looked for: loops, veiled, ifaces, maps, wideKeys, modest, calm, conditions, laid).
  DERIVED. THE GIVEN ROWS OF THIS SEAT. 5 by the template 'for every input the law returns true; each argument reads behind the call as it read before'; 0 by the template 'total and deterministic' (their statements: Qxb6603229aTotals.lean).
  GIVEN WITH THE SEED: the statements are not yours to turn. If you find one false, say at which input.
  Laid BY PROGRAM, IN A SANDBOX (cutbox-rows.mjs): the forced cells as the released guide's own fill.sh prints them over the translation fc9a8fc4c1d55692… (all of the seat's roots in one cut). By AI agents, Wed Nov 11 2026. No macro, syntax, notation, axiom, sorry.
-/
import Derived.Test.Qxb6603229aChecked
import GoSem.Claim
import GoSem.ClaimJoined
import GoSem.ClaimMapViews
import Derived.JoinedTies
import Derived.KernelRfl
namespace Go.Proofs.Qxb6603229a
/- THE CELL 'sum', in the pinned program and in every row, IS THE sha256 OF THE DUMP (.gsa) THAT Qxb6603229aProg.lean LOADS. Nothing in Lean hashes anything: it is a label: what it is worth is what the hold of that sum in a sandbox is worth. -/
noncomputable def Try.pinned : Pinned := { name := "qxb6603229a", sum := "fc9a8fc4c1d5569226b80432398b16e909dd6f1e58ecd99223cd7690ce089d53", checked := Try.checked }
namespace Rows
def none {H : Type} : Left H := { results := [], args := [] }

/-- 'zzlaws_internal_sqltext_b1.FnLikeAgreesWithTokenTableMatcher': WHATEVER THE INPUT: true; the input reads as it did. -/
def fnLikeAgreesWithTokenTableMatcherSpec : ChangeSpec := { name := "fnLikeAgreesWithTokenTableMatcher", fn := fun _ => fun
  | [d1, d2] => { results := [.lit (.bool true)], args := [d1, d2] }
  | _ => none }
def fnLikeAgreesWithTokenTableMatcherRow : OpenClaim := { program := "qxb6603229a", sum := "fc9a8fc4c1d5569226b80432398b16e909dd6f1e58ecd99223cd7690ce089d53", func := "example.com/shardwright/shardwright/zzlaws_internal_sqltext_b1.FnLikeAgreesWithTokenTableMatcher", spec := "fnLikeAgreesWithTokenTableMatcher", apart := false }
def FnLikeAgreesWithTokenTableMatcherSaid : Prop := fnLikeAgreesWithTokenTableMatcherRow.holds Try.pinned (OpenSpec.ofChange fnLikeAgreesWithTokenTableMatcherSpec)

/-- ITS FALSE NEIGHBOUR: 'it returns false'. Refute it at one input. -/
def fnLikeAgreesWithTokenTableMatcherWrong : ChangeSpec := { name := "fnLikeAgreesWithTokenTableMatcher", fn := fun _ => fun
  | [d1, d2] => { results := [.lit (.bool false)], args := [d1, d2] }
  | _ => none }
def FnLikeAgreesWithTokenTableMatcherWrongFalsely : Prop := fnLikeAgreesWithTokenTableMatcherRow.holds Try.pinned (OpenSpec.ofChange fnLikeAgreesWithTokenTableMatcherWrong)

/-- 'zzlaws_internal_sqltext_b1.FnLikeEscapedTextMatchesExactlyItself': WHATEVER THE INPUT: true; the input reads as it did. -/
def fnLikeEscapedTextMatchesExactlyItselfSpec : ChangeSpec := { name := "fnLikeEscapedTextMatchesExactlyItself", fn := fun _ => fun
  | [d1, d2] => { results := [.lit (.bool true)], args := [d1, d2] }
  | _ => none }
def fnLikeEscapedTextMatchesExactlyItselfRow : OpenClaim := { program := "qxb6603229a", sum := "fc9a8fc4c1d5569226b80432398b16e909dd6f1e58ecd99223cd7690ce089d53", func := "example.com/shardwright/shardwright/zzlaws_internal_sqltext_b1.FnLikeEscapedTextMatchesExactlyItself", spec := "fnLikeEscapedTextMatchesExactlyItself", apart := false }
def FnLikeEscapedTextMatchesExactlyItselfSaid : Prop := fnLikeEscapedTextMatchesExactlyItselfRow.holds Try.pinned (OpenSpec.ofChange fnLikeEscapedTextMatchesExactlyItselfSpec)

/-- ITS FALSE NEIGHBOUR: 'it returns false'. Refute it at one input. -/
def fnLikeEscapedTextMatchesExactlyItselfWrong : ChangeSpec := { name := "fnLikeEscapedTextMatchesExactlyItself", fn := fun _ => fun
  | [d1, d2] => { results := [.lit (.bool false)], args := [d1, d2] }
  | _ => none }
def FnLikeEscapedTextMatchesExactlyItselfWrongFalsely : Prop := fnLikeEscapedTextMatchesExactlyItselfRow.holds Try.pinned (OpenSpec.ofChange fnLikeEscapedTextMatchesExactlyItselfWrong)

/-- 'zzlaws_internal_sqltext_b1.FnOperatorsFindsAreOrderedAndEachIsTheFirstOpStandingThere': WHATEVER THE INPUT: true; the input reads as it did. -/
def fnOperatorsFindsAreOrderedAndEachIsTheFirstOpStandingThereSpec : ChangeSpec := { name := "fnOperatorsFindsAreOrderedAndEachIsTheFirstOpStandingThere", fn := fun _ => fun
  | [d1, d2] => { results := [.lit (.bool true)], args := [d1, d2] }
  | _ => none }
def fnOperatorsFindsAreOrderedAndEachIsTheFirstOpStandingThereRow : OpenClaim := { program := "qxb6603229a", sum := "fc9a8fc4c1d5569226b80432398b16e909dd6f1e58ecd99223cd7690ce089d53", func := "example.com/shardwright/shardwright/zzlaws_internal_sqltext_b1.FnOperatorsFindsAreOrderedAndEachIsTheFirstOpStandingThere", spec := "fnOperatorsFindsAreOrderedAndEachIsTheFirstOpStandingThere", apart := false }
def FnOperatorsFindsAreOrderedAndEachIsTheFirstOpStandingThereSaid : Prop := fnOperatorsFindsAreOrderedAndEachIsTheFirstOpStandingThereRow.holds Try.pinned (OpenSpec.ofChange fnOperatorsFindsAreOrderedAndEachIsTheFirstOpStandingThereSpec)

/-- ITS FALSE NEIGHBOUR: 'it returns false'. Refute it at one input. -/
def fnOperatorsFindsAreOrderedAndEachIsTheFirstOpStandingThereWrong : ChangeSpec := { name := "fnOperatorsFindsAreOrderedAndEachIsTheFirstOpStandingThere", fn := fun _ => fun
  | [d1, d2] => { results := [.lit (.bool false)], args := [d1, d2] }
  | _ => none }
def FnOperatorsFindsAreOrderedAndEachIsTheFirstOpStandingThereWrongFalsely : Prop := fnOperatorsFindsAreOrderedAndEachIsTheFirstOpStandingThereRow.holds Try.pinned (OpenSpec.ofChange fnOperatorsFindsAreOrderedAndEachIsTheFirstOpStandingThereWrong)

/-- 'zzlaws_internal_sqltext_b1.FnOperatorsPassOverAParenthesizedGroupBefore': WHATEVER THE INPUT: true; the input reads as it did. -/
def fnOperatorsPassOverAParenthesizedGroupBeforeSpec : ChangeSpec := { name := "fnOperatorsPassOverAParenthesizedGroupBefore", fn := fun _ => fun
  | [d1, d2, d3] => { results := [.lit (.bool true)], args := [d1, d2, d3] }
  | _ => none }
def fnOperatorsPassOverAParenthesizedGroupBeforeRow : OpenClaim := { program := "qxb6603229a", sum := "fc9a8fc4c1d5569226b80432398b16e909dd6f1e58ecd99223cd7690ce089d53", func := "example.com/shardwright/shardwright/zzlaws_internal_sqltext_b1.FnOperatorsPassOverAParenthesizedGroupBefore", spec := "fnOperatorsPassOverAParenthesizedGroupBefore", apart := false }
def FnOperatorsPassOverAParenthesizedGroupBeforeSaid : Prop := fnOperatorsPassOverAParenthesizedGroupBeforeRow.holds Try.pinned (OpenSpec.ofChange fnOperatorsPassOverAParenthesizedGroupBeforeSpec)

/-- ITS FALSE NEIGHBOUR: 'it returns false'. Refute it at one input. -/
def fnOperatorsPassOverAParenthesizedGroupBeforeWrong : ChangeSpec := { name := "fnOperatorsPassOverAParenthesizedGroupBefore", fn := fun _ => fun
  | [d1, d2, d3] => { results := [.lit (.bool false)], args := [d1, d2, d3] }
  | _ => none }
def FnOperatorsPassOverAParenthesizedGroupBeforeWrongFalsely : Prop := fnOperatorsPassOverAParenthesizedGroupBeforeRow.holds Try.pinned (OpenSpec.ofChange fnOperatorsPassOverAParenthesizedGroupBeforeWrong)

/-- 'zzlaws_internal_sqltext_b1.FnOperatorsIgnoresLetterCase': WHATEVER THE INPUT: true; the input reads as it did. -/
def fnOperatorsIgnoresLetterCaseSpec : ChangeSpec := { name := "fnOperatorsIgnoresLetterCase", fn := fun _ => fun
  | [d1, d2] => { results := [.lit (.bool true)], args := [d1, d2] }
  | _ => none }
def fnOperatorsIgnoresLetterCaseRow : OpenClaim := { program := "qxb6603229a", sum := "fc9a8fc4c1d5569226b80432398b16e909dd6f1e58ecd99223cd7690ce089d53", func := "example.com/shardwright/shardwright/zzlaws_internal_sqltext_b1.FnOperatorsIgnoresLetterCase", spec := "fnOperatorsIgnoresLetterCase", apart := false }
def FnOperatorsIgnoresLetterCaseSaid : Prop := fnOperatorsIgnoresLetterCaseRow.holds Try.pinned (OpenSpec.ofChange fnOperatorsIgnoresLetterCaseSpec)

/-- ITS FALSE NEIGHBOUR: 'it returns false'. Refute it at one input. -/
def fnOperatorsIgnoresLetterCaseWrong : ChangeSpec := { name := "fnOperatorsIgnoresLetterCase", fn := fun _ => fun
  | [d1, d2] => { results := [.lit (.bool false)], args := [d1, d2] }
  | _ => none }
def FnOperatorsIgnoresLetterCaseWrongFalsely : Prop := fnOperatorsIgnoresLetterCaseRow.holds Try.pinned (OpenSpec.ofChange fnOperatorsIgnoresLetterCaseWrong)

end Rows
end Go.Proofs.Qxb6603229a

/-
  No cell of these rows narrows 'for every input' (looked for: loops, veiled, ifaces, maps, wideKeys, modest, calm, conditions, laid).
  DERIVED. THE GIVEN ROWS OF THIS SEAT. 7 by the template 'for every input the law returns true; each argument reads behind the call as it read before'; 0 by the template 'total and deterministic' (their statements: Qxb6613674aTotals.lean).
  GIVEN WITH THE SEED: the statements are not yours to turn. If you find one false, say at which input.
  Laid BY PROGRAM, IN A SANDBOX (cutbox-rows.mjs): the forced cells as the released guide's own fill.sh prints them over the translation 059274d3500c9ef8… (all of the seat's roots in one cut). By AI agents, Wed Nov 11 2026. No macro, syntax, notation, axiom, sorry.
-/
import Derived.Test.Qxb6613674aChecked
import GoSem.Claim
import GoSem.ClaimJoined
import GoSem.ClaimMapViews
import Derived.JoinedTies
import Derived.KernelRfl
namespace Go.Proofs.Qxb6613674a
/- THE CELL 'sum', in the pinned program and in every row, IS THE sha256 OF THE DUMP (.gsa) THAT Qxb6613674aProg.lean LOADS. Nothing in Lean hashes anything: it is a label: what it is worth is what the hold of that sum in a sandbox is worth. -/
noncomputable def Try.pinned : Pinned := { name := "qxb6613674a", sum := "059274d3500c9ef8a5815ce7affe7703d40491ce6cca65450105c146d498e276", checked := Try.checked }
namespace Rows
def none {H : Type} : Left H := { results := [], args := [] }

/-- 'zzlaws_root_b1.FnMsqlLiteralPrefixAgreesWithWordKey': WHATEVER THE INPUT: true; the input reads as it did. -/
def fnMsqlLiteralPrefixAgreesWithWordKeySpec : ChangeSpec := { name := "fnMsqlLiteralPrefixAgreesWithWordKey", fn := fun _ => fun
  | [d1, d2] => { results := [.lit (.bool true)], args := [d1, d2] }
  | _ => none }
def fnMsqlLiteralPrefixAgreesWithWordKeyRow : OpenClaim := { program := "qxb6613674a", sum := "059274d3500c9ef8a5815ce7affe7703d40491ce6cca65450105c146d498e276", func := "example.com/lexwright/lexwright/zzlaws_root_b1.FnMsqlLiteralPrefixAgreesWithWordKey", spec := "fnMsqlLiteralPrefixAgreesWithWordKey", apart := false }
def FnMsqlLiteralPrefixAgreesWithWordKeySaid : Prop := fnMsqlLiteralPrefixAgreesWithWordKeyRow.holds Try.pinned (OpenSpec.ofChange fnMsqlLiteralPrefixAgreesWithWordKeySpec)

/-- ITS FALSE NEIGHBOUR: 'it returns false'. Refute it at one input. -/
def fnMsqlLiteralPrefixAgreesWithWordKeyWrong : ChangeSpec := { name := "fnMsqlLiteralPrefixAgreesWithWordKey", fn := fun _ => fun
  | [d1, d2] => { results := [.lit (.bool false)], args := [d1, d2] }
  | _ => none }
def FnMsqlLiteralPrefixAgreesWithWordKeyWrongFalsely : Prop := fnMsqlLiteralPrefixAgreesWithWordKeyRow.holds Try.pinned (OpenSpec.ofChange fnMsqlLiteralPrefixAgreesWithWordKeyWrong)

/-- 'zzlaws_root_b1.FnMsqlLiteralPrefixOneLetterCount': WHATEVER THE INPUT: true; the input reads as it did. -/
def fnMsqlLiteralPrefixOneLetterCountSpec : ChangeSpec := { name := "fnMsqlLiteralPrefixOneLetterCount", fn := fun _ => fun
  | [d] => { results := [.lit (.bool true)], args := [d] }
  | _ => none }
def fnMsqlLiteralPrefixOneLetterCountRow : OpenClaim := { program := "qxb6613674a", sum := "059274d3500c9ef8a5815ce7affe7703d40491ce6cca65450105c146d498e276", func := "example.com/lexwright/lexwright/zzlaws_root_b1.FnMsqlLiteralPrefixOneLetterCount", spec := "fnMsqlLiteralPrefixOneLetterCount", apart := false }
def FnMsqlLiteralPrefixOneLetterCountSaid : Prop := fnMsqlLiteralPrefixOneLetterCountRow.holds Try.pinned (OpenSpec.ofChange fnMsqlLiteralPrefixOneLetterCountSpec)

/-- ITS FALSE NEIGHBOUR: 'it returns false'. Refute it at one input. -/
def fnMsqlLiteralPrefixOneLetterCountWrong : ChangeSpec := { name := "fnMsqlLiteralPrefixOneLetterCount", fn := fun _ => fun
  | [d] => { results := [.lit (.bool false)], args := [d] }
  | _ => none }
def FnMsqlLiteralPrefixOneLetterCountWrongFalsely : Prop := fnMsqlLiteralPrefixOneLetterCountRow.holds Try.pinned (OpenSpec.ofChange fnMsqlLiteralPrefixOneLetterCountWrong)

/-- 'zzlaws_root_b1.FnKindIsLiteralOneRunOfTwo': WHATEVER THE INPUT: true; the input reads as it did. -/
def fnKindIsLiteralOneRunOfTwoSpec : ChangeSpec := { name := "fnKindIsLiteralOneRunOfTwo", fn := fun _ => fun
  | [d] => { results := [.lit (.bool true)], args := [d] }
  | _ => none }
def fnKindIsLiteralOneRunOfTwoRow : OpenClaim := { program := "qxb6613674a", sum := "059274d3500c9ef8a5815ce7affe7703d40491ce6cca65450105c146d498e276", func := "example.com/lexwright/lexwright/zzlaws_root_b1.FnKindIsLiteralOneRunOfTwo", spec := "fnKindIsLiteralOneRunOfTwo", apart := false }
def FnKindIsLiteralOneRunOfTwoSaid : Prop := fnKindIsLiteralOneRunOfTwoRow.holds Try.pinned (OpenSpec.ofChange fnKindIsLiteralOneRunOfTwoSpec)

/-- ITS FALSE NEIGHBOUR: 'it returns false'. Refute it at one input. -/
def fnKindIsLiteralOneRunOfTwoWrong : ChangeSpec := { name := "fnKindIsLiteralOneRunOfTwo", fn := fun _ => fun
  | [d] => { results := [.lit (.bool false)], args := [d] }
  | _ => none }
def FnKindIsLiteralOneRunOfTwoWrongFalsely : Prop := fnKindIsLiteralOneRunOfTwoRow.holds Try.pinned (OpenSpec.ofChange fnKindIsLiteralOneRunOfTwoWrong)

/-- 'zzlaws_root_b1.FnKindIsLiteralCountBelow': WHATEVER THE INPUT: true; the input reads as it did. -/
def fnKindIsLiteralCountBelowSpec : ChangeSpec := { name := "fnKindIsLiteralCountBelow", fn := fun _ => fun
  | [d] => { results := [.lit (.bool true)], args := [d] }
  | _ => none }
def fnKindIsLiteralCountBelowRow : OpenClaim := { program := "qxb6613674a", sum := "059274d3500c9ef8a5815ce7affe7703d40491ce6cca65450105c146d498e276", func := "example.com/lexwright/lexwright/zzlaws_root_b1.FnKindIsLiteralCountBelow", spec := "fnKindIsLiteralCountBelow", apart := false }
def FnKindIsLiteralCountBelowSaid : Prop := fnKindIsLiteralCountBelowRow.holds Try.pinned (OpenSpec.ofChange fnKindIsLiteralCountBelowSpec)

/-- ITS FALSE NEIGHBOUR: 'it returns false'. Refute it at one input. -/
def fnKindIsLiteralCountBelowWrong : ChangeSpec := { name := "fnKindIsLiteralCountBelow", fn := fun _ => fun
  | [d] => { results := [.lit (.bool false)], args := [d] }
  | _ => none }
def FnKindIsLiteralCountBelowWrongFalsely : Prop := fnKindIsLiteralCountBelowRow.holds Try.pinned (OpenSpec.ofChange fnKindIsLiteralCountBelowWrong)

/-- 'zzlaws_root_b1.FnEndsWordSplitsAtItsEnd': WHATEVER THE INPUT: true; the input reads as it did. -/
def fnEndsWordSplitsAtItsEndSpec : ChangeSpec := { name := "fnEndsWordSplitsAtItsEnd", fn := fun _ => fun
  | [d1, d2, d3, d4, d5] => { results := [.lit (.bool true)], args := [d1, d2, d3, d4, d5] }
  | _ => none }
def fnEndsWordSplitsAtItsEndRow : OpenClaim := { program := "qxb6613674a", sum := "059274d3500c9ef8a5815ce7affe7703d40491ce6cca65450105c146d498e276", func := "example.com/lexwright/lexwright/zzlaws_root_b1.FnEndsWordSplitsAtItsEnd", spec := "fnEndsWordSplitsAtItsEnd", apart := false }
def FnEndsWordSplitsAtItsEndSaid : Prop := fnEndsWordSplitsAtItsEndRow.holds Try.pinned (OpenSpec.ofChange fnEndsWordSplitsAtItsEndSpec)

/-- ITS FALSE NEIGHBOUR: 'it returns false'. Refute it at one input. -/
def fnEndsWordSplitsAtItsEndWrong : ChangeSpec := { name := "fnEndsWordSplitsAtItsEnd", fn := fun _ => fun
  | [d1, d2, d3, d4, d5] => { results := [.lit (.bool false)], args := [d1, d2, d3, d4, d5] }
  | _ => none }
def FnEndsWordSplitsAtItsEndWrongFalsely : Prop := fnEndsWordSplitsAtItsEndRow.holds Try.pinned (OpenSpec.ofChange fnEndsWordSplitsAtItsEndWrong)

/-- 'zzlaws_root_b1.FnEndsWordFollowCount': WHATEVER THE INPUT: true; the input reads as it did. -/
def fnEndsWordFollowCountSpec : ChangeSpec := { name := "fnEndsWordFollowCount", fn := fun _ => fun
  | [d1, d2, d3] => { results := [.lit (.bool true)], args := [d1, d2, d3] }
  | _ => none }
def fnEndsWordFollowCountRow : OpenClaim := { program := "qxb6613674a", sum := "059274d3500c9ef8a5815ce7affe7703d40491ce6cca65450105c146d498e276", func := "example.com/lexwright/lexwright/zzlaws_root_b1.FnEndsWordFollowCount", spec := "fnEndsWordFollowCount", apart := false }
def FnEndsWordFollowCountSaid : Prop := fnEndsWordFollowCountRow.holds Try.pinned (OpenSpec.ofChange fnEndsWordFollowCountSpec)

/-- ITS FALSE NEIGHBOUR: 'it returns false'. Refute it at one input. -/
def fnEndsWordFollowCountWrong : ChangeSpec := { name := "fnEndsWordFollowCount", fn := fun _ => fun
  | [d1, d2, d3] => { results := [.lit (.bool false)], args := [d1, d2, d3] }
  | _ => none }
def FnEndsWordFollowCountWrongFalsely : Prop := fnEndsWordFollowCountRow.holds Try.pinned (OpenSpec.ofChange fnEndsWordFollowCountWrong)

/-- 'zzlaws_root_b1.FnUnquoteHalvesDoubledDelimiters': WHATEVER THE INPUT: true; the input reads as it did. -/
def fnUnquoteHalvesDoubledDelimitersSpec : ChangeSpec := { name := "fnUnquoteHalvesDoubledDelimiters", fn := fun _ => fun
  | [d1, d2, d3, d4, d5, d6, d7, d8] => { results := [.lit (.bool true)], args := [d1, d2, d3, d4, d5, d6, d7, d8] }
  | _ => none }
def fnUnquoteHalvesDoubledDelimitersRow : OpenClaim := { program := "qxb6613674a", sum := "059274d3500c9ef8a5815ce7affe7703d40491ce6cca65450105c146d498e276", func := "example.com/lexwright/lexwright/zzlaws_root_b1.FnUnquoteHalvesDoubledDelimiters", spec := "fnUnquoteHalvesDoubledDelimiters", inPlace := ["internal/bytealg.IndexByteString"], unfollowed := true, recurses := true, apart := false }
def FnUnquoteHalvesDoubledDelimitersSaid : Prop := fnUnquoteHalvesDoubledDelimitersRow.holds Try.pinned (OpenSpec.ofChange fnUnquoteHalvesDoubledDelimitersSpec)

/-- ITS FALSE NEIGHBOUR: 'it returns false'. Refute it at one input. -/
def fnUnquoteHalvesDoubledDelimitersWrong : ChangeSpec := { name := "fnUnquoteHalvesDoubledDelimiters", fn := fun _ => fun
  | [d1, d2, d3, d4, d5, d6, d7, d8] => { results := [.lit (.bool false)], args := [d1, d2, d3, d4, d5, d6, d7, d8] }
  | _ => none }
def FnUnquoteHalvesDoubledDelimitersWrongFalsely : Prop := fnUnquoteHalvesDoubledDelimitersRow.holds Try.pinned (OpenSpec.ofChange fnUnquoteHalvesDoubledDelimitersWrong)

end Rows
end Go.Proofs.Qxb6613674a

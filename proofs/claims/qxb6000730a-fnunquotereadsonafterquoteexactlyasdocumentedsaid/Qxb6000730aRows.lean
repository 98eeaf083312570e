/-
  No cell of these rows narrows 'for every input' (looked for: loops, veiled, ifaces, maps, wideKeys, modest, calm, conditions, laid).
  DERIVED. THE GIVEN ROWS OF THIS SEAT. 9 by the template 'for every input the law returns true; each argument reads behind the call as it read before'; 0 by the template 'total and deterministic' (their statements: Qxb6000730aTotals.lean).
  GIVEN WITH THE SEED: the statements are not yours to turn. If you find one false, say at which input.
  Laid BY PROGRAM, IN A SANDBOX (cutbox-rows.mjs): the forced cells as the released guide's own fill.sh prints them over the translation 643cf497ff642b90… (all of the seat's roots in one cut). By AI agents, Wed Nov 11 2026. No macro, syntax, notation, axiom, sorry.
-/
import Derived.Test.Qxb6000730aChecked
import GoSem.Claim
import GoSem.ClaimJoined
import GoSem.ClaimMapViews
import Derived.JoinedTies
import Derived.KernelRfl
namespace Go.Proofs.Qxb6000730a
/- THE CELL 'sum', in the pinned program and in every row, IS THE sha256 OF THE DUMP (.gsa) THAT Qxb6000730aProg.lean LOADS. Nothing in Lean hashes anything: it is a label: what it is worth is what the hold of that sum in a sandbox is worth. -/
noncomputable def Try.pinned : Pinned := { name := "qxb6000730a", sum := "643cf497ff642b908f74cef8eaca455c6dc7f423c0895ed52a350593ae10ebc4", checked := Try.checked }
namespace Rows
def none {H : Type} : Left H := { results := [], args := [] }

/-- 'zzlaws_token_b1.FnCharRefStepMatchesReferenceModel': WHATEVER THE INPUT: true; the input reads as it did. -/
def fnCharRefStepMatchesReferenceModelSpec : ChangeSpec := { name := "fnCharRefStepMatchesReferenceModel", fn := fun _ => fun
  | [d] => { results := [.lit (.bool true)], args := [d] }
  | _ => none }
def fnCharRefStepMatchesReferenceModelRow : OpenClaim := { program := "qxb6000730a", sum := "643cf497ff642b908f74cef8eaca455c6dc7f423c0895ed52a350593ae10ebc4", func := "example.com/palimpsest/palimpsest/zzlaws_token_b1.FnCharRefStepMatchesReferenceModel", spec := "fnCharRefStepMatchesReferenceModel", apart := false }
def FnCharRefStepMatchesReferenceModelSaid : Prop := fnCharRefStepMatchesReferenceModelRow.holds Try.pinned (OpenSpec.ofChange fnCharRefStepMatchesReferenceModelSpec)

/-- ITS FALSE NEIGHBOUR: 'it returns false'. Refute it at one input. -/
def fnCharRefStepMatchesReferenceModelWrong : ChangeSpec := { name := "fnCharRefStepMatchesReferenceModel", fn := fun _ => fun
  | [d] => { results := [.lit (.bool false)], args := [d] }
  | _ => none }
def FnCharRefStepMatchesReferenceModelWrongFalsely : Prop := fnCharRefStepMatchesReferenceModelRow.holds Try.pinned (OpenSpec.ofChange fnCharRefStepMatchesReferenceModelWrong)

/-- 'zzlaws_token_b1.FnCharRefStepKeepsItsBounds': WHATEVER THE INPUT: true; the input reads as it did. -/
def fnCharRefStepKeepsItsBoundsSpec : ChangeSpec := { name := "fnCharRefStepKeepsItsBounds", fn := fun _ => fun
  | [d] => { results := [.lit (.bool true)], args := [d] }
  | _ => none }
def fnCharRefStepKeepsItsBoundsRow : OpenClaim := { program := "qxb6000730a", sum := "643cf497ff642b908f74cef8eaca455c6dc7f423c0895ed52a350593ae10ebc4", func := "example.com/palimpsest/palimpsest/zzlaws_token_b1.FnCharRefStepKeepsItsBounds", spec := "fnCharRefStepKeepsItsBounds", apart := false }
def FnCharRefStepKeepsItsBoundsSaid : Prop := fnCharRefStepKeepsItsBoundsRow.holds Try.pinned (OpenSpec.ofChange fnCharRefStepKeepsItsBoundsSpec)

/-- ITS FALSE NEIGHBOUR: 'it returns false'. Refute it at one input. -/
def fnCharRefStepKeepsItsBoundsWrong : ChangeSpec := { name := "fnCharRefStepKeepsItsBounds", fn := fun _ => fun
  | [d] => { results := [.lit (.bool false)], args := [d] }
  | _ => none }
def FnCharRefStepKeepsItsBoundsWrongFalsely : Prop := fnCharRefStepKeepsItsBoundsRow.holds Try.pinned (OpenSpec.ofChange fnCharRefStepKeepsItsBoundsWrong)

/-- 'zzlaws_token_b1.FnCharRefDecimalAndHexAgree': WHATEVER THE INPUT: true; the input reads as it did. -/
def fnCharRefDecimalAndHexAgreeSpec : ChangeSpec := { name := "fnCharRefDecimalAndHexAgree", fn := fun _ => fun
  | [d1, d2, d3, d4] => { results := [.lit (.bool true)], args := [d1, d2, d3, d4] }
  | _ => none }
def fnCharRefDecimalAndHexAgreeRow : OpenClaim := { program := "qxb6000730a", sum := "643cf497ff642b908f74cef8eaca455c6dc7f423c0895ed52a350593ae10ebc4", func := "example.com/palimpsest/palimpsest/zzlaws_token_b1.FnCharRefDecimalAndHexAgree", spec := "fnCharRefDecimalAndHexAgree", apart := false }
def FnCharRefDecimalAndHexAgreeSaid : Prop := fnCharRefDecimalAndHexAgreeRow.holds Try.pinned (OpenSpec.ofChange fnCharRefDecimalAndHexAgreeSpec)

/-- ITS FALSE NEIGHBOUR: 'it returns false'. Refute it at one input. -/
def fnCharRefDecimalAndHexAgreeWrong : ChangeSpec := { name := "fnCharRefDecimalAndHexAgree", fn := fun _ => fun
  | [d1, d2, d3, d4] => { results := [.lit (.bool false)], args := [d1, d2, d3, d4] }
  | _ => none }
def FnCharRefDecimalAndHexAgreeWrongFalsely : Prop := fnCharRefDecimalAndHexAgreeRow.holds Try.pinned (OpenSpec.ofChange fnCharRefDecimalAndHexAgreeWrong)

/-- 'zzlaws_token_b1.FnTagStepEndsOnlyAtGTAndFailsOnlyAtNUL': WHATEVER THE INPUT: true; the input reads as it did. -/
def fnTagStepEndsOnlyAtGTAndFailsOnlyAtNULSpec : ChangeSpec := { name := "fnTagStepEndsOnlyAtGTAndFailsOnlyAtNUL", fn := fun _ => fun
  | [d1, d2] => { results := [.lit (.bool true)], args := [d1, d2] }
  | _ => none }
def fnTagStepEndsOnlyAtGTAndFailsOnlyAtNULRow : OpenClaim := { program := "qxb6000730a", sum := "643cf497ff642b908f74cef8eaca455c6dc7f423c0895ed52a350593ae10ebc4", func := "example.com/palimpsest/palimpsest/zzlaws_token_b1.FnTagStepEndsOnlyAtGTAndFailsOnlyAtNUL", spec := "fnTagStepEndsOnlyAtGTAndFailsOnlyAtNUL", apart := false }
def FnTagStepEndsOnlyAtGTAndFailsOnlyAtNULSaid : Prop := fnTagStepEndsOnlyAtGTAndFailsOnlyAtNULRow.holds Try.pinned (OpenSpec.ofChange fnTagStepEndsOnlyAtGTAndFailsOnlyAtNULSpec)

/-- ITS FALSE NEIGHBOUR: 'it returns false'. Refute it at one input. -/
def fnTagStepEndsOnlyAtGTAndFailsOnlyAtNULWrong : ChangeSpec := { name := "fnTagStepEndsOnlyAtGTAndFailsOnlyAtNUL", fn := fun _ => fun
  | [d1, d2] => { results := [.lit (.bool false)], args := [d1, d2] }
  | _ => none }
def FnTagStepEndsOnlyAtGTAndFailsOnlyAtNULWrongFalsely : Prop := fnTagStepEndsOnlyAtGTAndFailsOnlyAtNULRow.holds Try.pinned (OpenSpec.ofChange fnTagStepEndsOnlyAtGTAndFailsOnlyAtNULWrong)

/-- 'zzlaws_token_b1.FnTagStepWithoutQuotesEndsAtFirstGT': WHATEVER THE INPUT: true; the input reads as it did. -/
def fnTagStepWithoutQuotesEndsAtFirstGTSpec : ChangeSpec := { name := "fnTagStepWithoutQuotesEndsAtFirstGT", fn := fun _ => fun
  | [d1, d2] => { results := [.lit (.bool true)], args := [d1, d2] }
  | _ => none }
def fnTagStepWithoutQuotesEndsAtFirstGTRow : OpenClaim := { program := "qxb6000730a", sum := "643cf497ff642b908f74cef8eaca455c6dc7f423c0895ed52a350593ae10ebc4", func := "example.com/palimpsest/palimpsest/zzlaws_token_b1.FnTagStepWithoutQuotesEndsAtFirstGT", spec := "fnTagStepWithoutQuotesEndsAtFirstGT", apart := false }
def FnTagStepWithoutQuotesEndsAtFirstGTSaid : Prop := fnTagStepWithoutQuotesEndsAtFirstGTRow.holds Try.pinned (OpenSpec.ofChange fnTagStepWithoutQuotesEndsAtFirstGTSpec)

/-- ITS FALSE NEIGHBOUR: 'it returns false'. Refute it at one input. -/
def fnTagStepWithoutQuotesEndsAtFirstGTWrong : ChangeSpec := { name := "fnTagStepWithoutQuotesEndsAtFirstGT", fn := fun _ => fun
  | [d1, d2] => { results := [.lit (.bool false)], args := [d1, d2] }
  | _ => none }
def FnTagStepWithoutQuotesEndsAtFirstGTWrongFalsely : Prop := fnTagStepWithoutQuotesEndsAtFirstGTRow.holds Try.pinned (OpenSpec.ofChange fnTagStepWithoutQuotesEndsAtFirstGTWrong)

/-- 'zzlaws_token_b1.FnTagStepQuotedValueHidesGT': WHATEVER THE INPUT: true; the input reads as it did. -/
def fnTagStepQuotedValueHidesGTSpec : ChangeSpec := { name := "fnTagStepQuotedValueHidesGT", fn := fun _ => fun
  | [d1, d2, d3, d4, d5] => { results := [.lit (.bool true)], args := [d1, d2, d3, d4, d5] }
  | _ => none }
def fnTagStepQuotedValueHidesGTRow : OpenClaim := { program := "qxb6000730a", sum := "643cf497ff642b908f74cef8eaca455c6dc7f423c0895ed52a350593ae10ebc4", func := "example.com/palimpsest/palimpsest/zzlaws_token_b1.FnTagStepQuotedValueHidesGT", spec := "fnTagStepQuotedValueHidesGT", apart := false }
def FnTagStepQuotedValueHidesGTSaid : Prop := fnTagStepQuotedValueHidesGTRow.holds Try.pinned (OpenSpec.ofChange fnTagStepQuotedValueHidesGTSpec)

/-- ITS FALSE NEIGHBOUR: 'it returns false'. Refute it at one input. -/
def fnTagStepQuotedValueHidesGTWrong : ChangeSpec := { name := "fnTagStepQuotedValueHidesGT", fn := fun _ => fun
  | [d1, d2, d3, d4, d5] => { results := [.lit (.bool false)], args := [d1, d2, d3, d4, d5] }
  | _ => none }
def FnTagStepQuotedValueHidesGTWrongFalsely : Prop := fnTagStepQuotedValueHidesGTRow.holds Try.pinned (OpenSpec.ofChange fnTagStepQuotedValueHidesGTWrong)

/-- 'zzlaws_token_b1.FnUnquoteReadsOnAfterQuoteExactlyAsDocumented': WHATEVER THE INPUT: true; the input reads as it did. -/
def fnUnquoteReadsOnAfterQuoteExactlyAsDocumentedSpec : ChangeSpec := { name := "fnUnquoteReadsOnAfterQuoteExactlyAsDocumented", fn := fun _ => fun
  | [d1, d2, d3, d4, d5, d6, d7] => { results := [.lit (.bool true)], args := [d1, d2, d3, d4, d5, d6, d7] }
  | _ => none }
def fnUnquoteReadsOnAfterQuoteExactlyAsDocumentedRow : OpenClaim := { program := "qxb6000730a", sum := "643cf497ff642b908f74cef8eaca455c6dc7f423c0895ed52a350593ae10ebc4", func := "example.com/palimpsest/palimpsest/zzlaws_token_b1.FnUnquoteReadsOnAfterQuoteExactlyAsDocumented", spec := "fnUnquoteReadsOnAfterQuoteExactlyAsDocumented", apart := false }
def FnUnquoteReadsOnAfterQuoteExactlyAsDocumentedSaid : Prop := fnUnquoteReadsOnAfterQuoteExactlyAsDocumentedRow.holds Try.pinned (OpenSpec.ofChange fnUnquoteReadsOnAfterQuoteExactlyAsDocumentedSpec)

/-- ITS FALSE NEIGHBOUR: 'it returns false'. Refute it at one input. -/
def fnUnquoteReadsOnAfterQuoteExactlyAsDocumentedWrong : ChangeSpec := { name := "fnUnquoteReadsOnAfterQuoteExactlyAsDocumented", fn := fun _ => fun
  | [d1, d2, d3, d4, d5, d6, d7] => { results := [.lit (.bool false)], args := [d1, d2, d3, d4, d5, d6, d7] }
  | _ => none }
def FnUnquoteReadsOnAfterQuoteExactlyAsDocumentedWrongFalsely : Prop := fnUnquoteReadsOnAfterQuoteExactlyAsDocumentedRow.holds Try.pinned (OpenSpec.ofChange fnUnquoteReadsOnAfterQuoteExactlyAsDocumentedWrong)

/-- 'zzlaws_token_b1.FnUnquoteRefusesASecondTime': WHATEVER THE INPUT: true; the input reads as it did. -/
def fnUnquoteRefusesASecondTimeSpec : ChangeSpec := { name := "fnUnquoteRefusesASecondTime", fn := fun _ => fun
  | [d1, d2] => { results := [.lit (.bool true)], args := [d1, d2] }
  | _ => none }
def fnUnquoteRefusesASecondTimeRow : OpenClaim := { program := "qxb6000730a", sum := "643cf497ff642b908f74cef8eaca455c6dc7f423c0895ed52a350593ae10ebc4", func := "example.com/palimpsest/palimpsest/zzlaws_token_b1.FnUnquoteRefusesASecondTime", spec := "fnUnquoteRefusesASecondTime", apart := false }
def FnUnquoteRefusesASecondTimeSaid : Prop := fnUnquoteRefusesASecondTimeRow.holds Try.pinned (OpenSpec.ofChange fnUnquoteRefusesASecondTimeSpec)

/-- ITS FALSE NEIGHBOUR: 'it returns false'. Refute it at one input. -/
def fnUnquoteRefusesASecondTimeWrong : ChangeSpec := { name := "fnUnquoteRefusesASecondTime", fn := fun _ => fun
  | [d1, d2] => { results := [.lit (.bool false)], args := [d1, d2] }
  | _ => none }
def FnUnquoteRefusesASecondTimeWrongFalsely : Prop := fnUnquoteRefusesASecondTimeRow.holds Try.pinned (OpenSpec.ofChange fnUnquoteRefusesASecondTimeWrong)

/-- 'zzlaws_token_b1.FnUnquoteRefusesWhenReadLong': WHATEVER THE INPUT: true; the input reads as it did. -/
def fnUnquoteRefusesWhenReadLongSpec : ChangeSpec := { name := "fnUnquoteRefusesWhenReadLong", fn := fun _ => fun
  | [d] => { results := [.lit (.bool true)], args := [d] }
  | _ => none }
def fnUnquoteRefusesWhenReadLongRow : OpenClaim := { program := "qxb6000730a", sum := "643cf497ff642b908f74cef8eaca455c6dc7f423c0895ed52a350593ae10ebc4", func := "example.com/palimpsest/palimpsest/zzlaws_token_b1.FnUnquoteRefusesWhenReadLong", spec := "fnUnquoteRefusesWhenReadLong", apart := false }
def FnUnquoteRefusesWhenReadLongSaid : Prop := fnUnquoteRefusesWhenReadLongRow.holds Try.pinned (OpenSpec.ofChange fnUnquoteRefusesWhenReadLongSpec)

/-- ITS FALSE NEIGHBOUR: 'it returns false'. Refute it at one input. -/
def fnUnquoteRefusesWhenReadLongWrong : ChangeSpec := { name := "fnUnquoteRefusesWhenReadLong", fn := fun _ => fun
  | [d] => { results := [.lit (.bool false)], args := [d] }
  | _ => none }
def FnUnquoteRefusesWhenReadLongWrongFalsely : Prop := fnUnquoteRefusesWhenReadLongRow.holds Try.pinned (OpenSpec.ofChange fnUnquoteRefusesWhenReadLongWrong)

end Rows
end Go.Proofs.Qxb6000730a

/-
  No cell of these rows narrows 'for every input' (looked for: loops, veiled, ifaces, maps, wideKeys, modest, calm, conditions, laid).
  DERIVED. THE GIVEN ROWS OF THIS SEAT. 5 by the template 'for every input the law returns true; each argument reads behind the call as it read before'; 0 by the template 'total and deterministic' (their statements: Qxb6001722aTotals.lean).
  GIVEN WITH THE SEED: the statements are not yours to turn. If you find one false, say at which input.
  Laid BY PROGRAM, IN A SANDBOX (cutbox-rows.mjs): the forced cells as the released guide's own fill.sh prints them over the translation db2af39c54ce608a… (all of the seat's roots in one cut). By AI agents, Wed Nov 11 2026. No macro, syntax, notation, axiom, sorry.
-/
import Derived.Test.Qxb6001722aChecked
import GoSem.Claim
import GoSem.ClaimJoined
import GoSem.ClaimMapViews
import Derived.JoinedTies
import Derived.KernelRfl
namespace Go.Proofs.Qxb6001722a
/- THE CELL 'sum', in the pinned program and in every row, IS THE sha256 OF THE DUMP (.gsa) THAT Qxb6001722aProg.lean LOADS. Nothing in Lean hashes anything: it is a label: what it is worth is what the hold of that sum in a sandbox is worth. -/
noncomputable def Try.pinned : Pinned := { name := "qxb6001722a", sum := "db2af39c54ce608aed6adc48af304f8a49456fb4e42d5e98fcd7d17a58665193", checked := Try.checked }
namespace Rows
def none {H : Type} : Left H := { results := [], args := [] }

/-- 'zzlaws_internal_jsoncheck_g1.FnKindAtRefusesNonOpeners': WHATEVER THE INPUT: true; the input reads as it did. -/
def fnKindAtRefusesNonOpenersSpec : ChangeSpec := { name := "fnKindAtRefusesNonOpeners", fn := fun _ => fun
  | [d] => { results := [.lit (.bool true)], args := [d] }
  | _ => none }
def fnKindAtRefusesNonOpenersRow : OpenClaim := { program := "qxb6001722a", sum := "db2af39c54ce608aed6adc48af304f8a49456fb4e42d5e98fcd7d17a58665193", func := "example.com/garm/garm/zzlaws_internal_jsoncheck_g1.FnKindAtRefusesNonOpeners", spec := "fnKindAtRefusesNonOpeners", apart := false }
def FnKindAtRefusesNonOpenersSaid : Prop := fnKindAtRefusesNonOpenersRow.holds Try.pinned (OpenSpec.ofChange fnKindAtRefusesNonOpenersSpec)

/-- ITS FALSE NEIGHBOUR: 'it returns false'. Refute it at one input. -/
def fnKindAtRefusesNonOpenersWrong : ChangeSpec := { name := "fnKindAtRefusesNonOpeners", fn := fun _ => fun
  | [d] => { results := [.lit (.bool false)], args := [d] }
  | _ => none }
def FnKindAtRefusesNonOpenersWrongFalsely : Prop := fnKindAtRefusesNonOpenersRow.holds Try.pinned (OpenSpec.ofChange fnKindAtRefusesNonOpenersWrong)

/-- 'zzlaws_internal_jsoncheck_g1.FnJoinAssociativeOverNonEmptyMiddle': WHATEVER THE INPUT: true; the input reads as it did. -/
def fnJoinAssociativeOverNonEmptyMiddleSpec : ChangeSpec := { name := "fnJoinAssociativeOverNonEmptyMiddle", fn := fun _ => fun
  | [d1, d2, d3] => { results := [.lit (.bool true)], args := [d1, d2, d3] }
  | _ => none }
def fnJoinAssociativeOverNonEmptyMiddleRow : OpenClaim := { program := "qxb6001722a", sum := "db2af39c54ce608aed6adc48af304f8a49456fb4e42d5e98fcd7d17a58665193", func := "example.com/garm/garm/zzlaws_internal_jsoncheck_g1.FnJoinAssociativeOverNonEmptyMiddle", spec := "fnJoinAssociativeOverNonEmptyMiddle", apart := false }
def FnJoinAssociativeOverNonEmptyMiddleSaid : Prop := fnJoinAssociativeOverNonEmptyMiddleRow.holds Try.pinned (OpenSpec.ofChange fnJoinAssociativeOverNonEmptyMiddleSpec)

/-- ITS FALSE NEIGHBOUR: 'it returns false'. Refute it at one input. -/
def fnJoinAssociativeOverNonEmptyMiddleWrong : ChangeSpec := { name := "fnJoinAssociativeOverNonEmptyMiddle", fn := fun _ => fun
  | [d1, d2, d3] => { results := [.lit (.bool false)], args := [d1, d2, d3] }
  | _ => none }
def FnJoinAssociativeOverNonEmptyMiddleWrongFalsely : Prop := fnJoinAssociativeOverNonEmptyMiddleRow.holds Try.pinned (OpenSpec.ofChange fnJoinAssociativeOverNonEmptyMiddleWrong)

/-- 'zzlaws_internal_jsoncheck_g1.FnHeadersPointKeepsEveryHeader': WHATEVER THE INPUT: true; the input reads as it did. -/
def fnHeadersPointKeepsEveryHeaderSpec : ChangeSpec := { name := "fnHeadersPointKeepsEveryHeader", fn := fun _ => fun
  | [d] => { results := [.lit (.bool true)], args := [d] }
  | _ => none }
def fnHeadersPointKeepsEveryHeaderRow : OpenClaim := { program := "qxb6001722a", sum := "db2af39c54ce608aed6adc48af304f8a49456fb4e42d5e98fcd7d17a58665193", func := "example.com/garm/garm/zzlaws_internal_jsoncheck_g1.FnHeadersPointKeepsEveryHeader", spec := "fnHeadersPointKeepsEveryHeader", apart := false }
def FnHeadersPointKeepsEveryHeaderSaid : Prop := fnHeadersPointKeepsEveryHeaderRow.holds Try.pinned (OpenSpec.ofChange fnHeadersPointKeepsEveryHeaderSpec)

/-- ITS FALSE NEIGHBOUR: 'it returns false'. Refute it at one input. -/
def fnHeadersPointKeepsEveryHeaderWrong : ChangeSpec := { name := "fnHeadersPointKeepsEveryHeader", fn := fun _ => fun
  | [d] => { results := [.lit (.bool false)], args := [d] }
  | _ => none }
def FnHeadersPointKeepsEveryHeaderWrongFalsely : Prop := fnHeadersPointKeepsEveryHeaderRow.holds Try.pinned (OpenSpec.ofChange fnHeadersPointKeepsEveryHeaderWrong)

/-- 'zzlaws_internal_jsoncheck_g2.FnSwapScriptMovesPairsAndUndoes': WHATEVER THE INPUT: true; the input reads as it did. -/
def fnSwapScriptMovesPairsAndUndoesSpec : ChangeSpec := { name := "fnSwapScriptMovesPairsAndUndoes", fn := fun _ => fun
  | [d1, d2, d3, d4] => { results := [.lit (.bool true)], args := [d1, d2, d3, d4] }
  | _ => none }
def fnSwapScriptMovesPairsAndUndoesRow : OpenClaim := { program := "qxb6001722a", sum := "db2af39c54ce608aed6adc48af304f8a49456fb4e42d5e98fcd7d17a58665193", func := "example.com/garm/garm/zzlaws_internal_jsoncheck_g2.FnSwapScriptMovesPairsAndUndoes", spec := "fnSwapScriptMovesPairsAndUndoes", apart := false }
def FnSwapScriptMovesPairsAndUndoesSaid : Prop := fnSwapScriptMovesPairsAndUndoesRow.holds Try.pinned (OpenSpec.ofChange fnSwapScriptMovesPairsAndUndoesSpec)

/-- ITS FALSE NEIGHBOUR: 'it returns false'. Refute it at one input. -/
def fnSwapScriptMovesPairsAndUndoesWrong : ChangeSpec := { name := "fnSwapScriptMovesPairsAndUndoes", fn := fun _ => fun
  | [d1, d2, d3, d4] => { results := [.lit (.bool false)], args := [d1, d2, d3, d4] }
  | _ => none }
def FnSwapScriptMovesPairsAndUndoesWrongFalsely : Prop := fnSwapScriptMovesPairsAndUndoesRow.holds Try.pinned (OpenSpec.ofChange fnSwapScriptMovesPairsAndUndoesWrong)

/-- 'zzlaws_internal_jsoncheck_g1.FnStackPopGivesBackThePushedInOrder': WHATEVER THE INPUT: true; the input reads as it did. -/
def fnStackPopGivesBackThePushedInOrderSpec : ChangeSpec := { name := "fnStackPopGivesBackThePushedInOrder", fn := fun _ => fun
  | [d] => { results := [.lit (.bool true)], args := [d] }
  | _ => none }
def fnStackPopGivesBackThePushedInOrderRow : OpenClaim := { program := "qxb6001722a", sum := "db2af39c54ce608aed6adc48af304f8a49456fb4e42d5e98fcd7d17a58665193", func := "example.com/garm/garm/zzlaws_internal_jsoncheck_g1.FnStackPopGivesBackThePushedInOrder", spec := "fnStackPopGivesBackThePushedInOrder", apart := false }
def FnStackPopGivesBackThePushedInOrderSaid : Prop := fnStackPopGivesBackThePushedInOrderRow.holds Try.pinned (OpenSpec.ofChange fnStackPopGivesBackThePushedInOrderSpec)

/-- ITS FALSE NEIGHBOUR: 'it returns false'. Refute it at one input. -/
def fnStackPopGivesBackThePushedInOrderWrong : ChangeSpec := { name := "fnStackPopGivesBackThePushedInOrder", fn := fun _ => fun
  | [d] => { results := [.lit (.bool false)], args := [d] }
  | _ => none }
def FnStackPopGivesBackThePushedInOrderWrongFalsely : Prop := fnStackPopGivesBackThePushedInOrderRow.holds Try.pinned (OpenSpec.ofChange fnStackPopGivesBackThePushedInOrderWrong)

end Rows
end Go.Proofs.Qxb6001722a

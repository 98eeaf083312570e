/-
  'Rows.FnTagStepQuotedValueHidesGTSaid', proved: the frame is the guide's template for this function, the walk lies in Qxb6000730aHide.
-/
import Derived.Test.Qxb6000730aHead
import Derived.Test.Qxb6000730aHide
import Derived.WalkKit
import Derived.ProofKit
import Derived.OpenShut
import Derived.Below
import Derived.ShutString
namespace Go.Proofs.Qxb6000730a.fnTagStepQuotedValueHidesGT
open Go.ChangeShapes Go.WideShapes Go.ChangeAt Go.RowKit
open Go.ChangeMaps (open_string shut_string)
set_option linter.unusedVariables false      -- a walk need not use every 'w<i>' (that an integer argument fits its kind)

theorem own : ownKnob Try.prog.godebug = none := by kernel_rfl

/-! ### THE WALK: the Go text returns true and writes nothing that was there. -/
theorem walk (a0 : ByteArray) (a1 : ByteArray) (a2 : ByteArray) (a3 : Bool) (a4 : Bool) (w0 : a0.size ≤ maxLen) (w1 : a1.size ≤ maxLen) (w2 : a2.size ≤ maxLen) (w : World) :
    Calls Try.prog 8 #[.string a0, .string a1, .string a2, .bool a3, .bool a4] w fun e w' => e = .returned (.bool true) ∧ Below w.heap.size w w' := by
  by_cases h : 1048576 < a0.size + a1.size + a2.size
  · exact Hide.toolong a0 a1 a2 a3 a4 w w0 w1 w2 h
  have h' : a0.size + a1.size + a2.size ≤ 1048576 := by omega
  by_cases g1 : 65536 < a0.size
  · exact Hide.long1 a0 a1 a2 a3 a4 w h' g1
  by_cases g2 : 65536 < a1.size
  · exact Hide.long2 a0 a1 a2 a3 a4 w h' (by omega) g2
  by_cases g3 : 65536 < a2.size
  · exact Hide.long3 a0 a1 a2 a3 a4 w h' (by omega) (by omega) g3
  obtain ⟨bn, hN⟩ := Hide.exB (∀ c ∈ Num.lst a0, Open.nameB c)
  obtain ⟨bk, hK⟩ := Hide.exB (∀ c ∈ Num.lst a1, Open.keyB c)
  cases a4 with
  | false =>
    obtain ⟨bv, hV⟩ := Hide.exB (∀ c ∈ Num.lst a2, c ≠ 34)
    cases bn with
    | false => exact Hide.bad_name_false a0 a1 a2 a3 w h' (by omega) (by omega) (by omega) hN
    | true =>
      by_cases hz : a1.size = 0
      · exact Hide.bad_empty_false a0 a1 a2 a3 w h' (by omega) (by omega) (by omega) hN hz
      cases bk with
      | false => exact Hide.bad_key_false a0 a1 a2 a3 w h' (by omega) (by omega) (by omega) hN (by omega) hK
      | true =>
        cases bv with
        | false => exact Hide.bad_val_false a0 a1 a2 a3 w h' (by omega) (by omega) (by omega) hN (by omega) hK hV
        | true => exact Hide.main_false a0 a1 a2 a3 w h' (by omega) (by omega) (by omega) hN (by omega) hK hV
  | true =>
    obtain ⟨bv, hV⟩ := Hide.exB (∀ c ∈ Num.lst a2, c ≠ 39)
    cases bn with
    | false => exact Hide.bad_name_true a0 a1 a2 a3 w h' (by omega) (by omega) (by omega) hN
    | true =>
      by_cases hz : a1.size = 0
      · exact Hide.bad_empty_true a0 a1 a2 a3 w h' (by omega) (by omega) (by omega) hN hz
      cases bk with
      | false => exact Hide.bad_key_true a0 a1 a2 a3 w h' (by omega) (by omega) (by omega) hN (by omega) hK
      | true =>
        cases bv with
        | false => exact Hide.bad_val_true a0 a1 a2 a3 w h' (by omega) (by omega) (by omega) hN (by omega) hK hV
        | true => exact Hide.main_true a0 a1 a2 a3 w h' (by omega) (by omega) (by omega) hN (by omega) hK hV

/-! ### THE ROW's STEP -/
set_option maxRecDepth 100000 in
theorem lifted (os : Os) (started : os.Started) (H : Type) (enc : TypeId × Value → H) :
    ReturnsInHanded {} Try.checked os 8 .any (Rows.fnTagStepQuotedValueHidesGTSpec.pre6 enc Try.prog Try.f8 Rows.fnTagStepQuotedValueHidesGTRow.domain false) (Rows.fnTagStepQuotedValueHidesGTSpec.post enc Try.prog Try.f8 false true false false) := by
  refine returnsInHanded_of_change (C := Try.checked) own started (by kernel_rfl) Try.func8
    (ChangeSpec.witness6 (enc := enc) (C := Try.checked) false ⟨#[], #[.string ByteArray.empty, .string ByteArray.empty, .string ByteArray.empty, .bool false, .bool false], []⟩ 8 (by kernel_rfl) (by kernel_rfl) (by kernel_rfl) (by kernel_rfl)) ?_
  intro W base args ds gs before hval0 hW hcnd _
  have hval : ∀ (j : Nat) t v, Try.f8.params[j]? = some t → args[j]? = some v → Value.okWide Try.prog W .any base t v := hval0
  have hW' := hW
  obtain ⟨p, q, hA0, hV, rfl, hfz, hnd⟩ := hW
  have hA : DataW.TrodAll enc Try.prog W 0 (fun _ => true) true Try.f8.params.toList args.toList ds p := hA0
  rw [Try.params8] at hA hval
  obtain ⟨v0, vs0, d0, ds0, p0, q0, hargs, rfl, rfl, h0, r0⟩ := trodAll_cons hA
  obtain ⟨v1, vs1, d1, ds1, p1, q1, rfl, rfl, rfl, h1, r1⟩ := trodAll_cons r0
  obtain ⟨v2, vs2, d2, ds2, p2, q2, rfl, rfl, rfl, h2, r2⟩ := trodAll_cons r1
  obtain ⟨v3, vs3, d3, ds3, p3, q3, rfl, rfl, rfl, h3, r3⟩ := trodAll_cons r2
  obtain ⟨v4, vs4, d4, ds4, p4, q4, rfl, rfl, rfl, h4, r4⟩ := trodAll_cons r3
  obtain ⟨rfl, rfl, rfl⟩ := trodAll_nil r4
  obtain rfl : args = #[v0, v1, v2, v3, v4] := by cases args; simp_all
  obtain ⟨rfl, rfl⟩ := trodVars_none hV
  obtain ⟨a0, rfl, rfl, rfl, w0⟩ := open_string Try.underlying9 (hval 0 9 v0 rfl rfl) h0
  obtain ⟨a1, rfl, rfl, rfl, w1⟩ := open_string Try.underlying9 (hval 1 9 v1 rfl rfl) h1
  obtain ⟨a2, rfl, rfl, rfl, w2⟩ := open_string Try.underlying9 (hval 2 9 v2 rfl rfl) h2
  obtain ⟨a3, rfl, rfl, rfl⟩ := open_bool Try.underlying4 (hval 3 4 v3 rfl rfl) h3
  obtain ⟨a4, rfl, rfl, rfl⟩ := open_bool Try.underlying4 (hval 4 4 v4 rfl rfl) h4
  clear hA0 hval0
  simp only [List.append_nil] at hW'
  refine (walk a0 a1 a2 a3 a4 w0 w1 w2 W).mono fun e W' ⟨he, bel⟩ => ?_
  subst he
  exact ⟨_, rfl, _, _, _, [], [], [], hW', trodAll_mk1 (shut_bool Try.underlying4 _), (trodAll_cons_mk (shut_string Try.underlying9 w0) (trodAll_cons_mk (shut_string Try.underlying9 w1) (trodAll_cons_mk (shut_string Try.underlying9 w2) (trodAll_cons_mk (shut_bool Try.underlying4 _) (trodAll_cons_mk (shut_bool Try.underlying4 _) trodAll_mk0))))), rfl, bel.frame _, fun h => by cases h⟩

theorem closed : joinedFacts Try.prog 8 Try.f8 Rows.fnTagStepQuotedValueHidesGTSpec Rows.fnTagStepQuotedValueHidesGTRow = true := by
  unfold joinedFacts
  rw [Head.may, Head.lifts, Head.make]
  kernel_rfl

theorem over : Rows.fnTagStepQuotedValueHidesGTRow.holds Try.pinned (OpenSpec.ofChange Rows.fnTagStepQuotedValueHidesGTSpec) :=
  OpenClaim.holds_of_wide 8 Try.f8 rfl rfl rfl rfl rfl rfl rfl ⟨rfl, rfl, rfl, rfl, rfl⟩ rfl rfl rfl rfl rfl (by kernel_rfl) Try.func8 closed
    (of_decide_eq_true (by kernel_rfl)) (by unfold Func.isWrapper; first | (rw [if_pos (by decide +kernel)]; kernel_rfl) | (rw [if_neg (by decide +kernel)]; exact ⟨rfl, rfl⟩))
    (fun os started H enc _ => lifted os started H enc)

/-- ████ THE STATEMENT ████ -/
theorem proved : Rows.FnTagStepQuotedValueHidesGTSaid :=
  over
end Go.Proofs.Qxb6000730a.fnTagStepQuotedValueHidesGT

namespace Go.Proofs.Qxb6000730a
theorem fnTagStepQuotedValueHidesGT_holds : Rows.FnTagStepQuotedValueHidesGTSaid := fnTagStepQuotedValueHidesGT.proved
end Go.Proofs.Qxb6000730a

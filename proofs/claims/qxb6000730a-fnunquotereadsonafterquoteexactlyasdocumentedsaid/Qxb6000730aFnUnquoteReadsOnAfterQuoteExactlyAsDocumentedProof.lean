/-
  'Rows.FnUnquoteReadsOnAfterQuoteExactlyAsDocumentedSaid', proved: the frame is the guide's template for this function, the walk lies in Qxb6000730aUnqLaw.
-/
import Derived.Test.Qxb6000730aHead
import Derived.Test.Qxb6000730aUnqLaw
import Derived.WalkKit
import Derived.ProofKit
import Derived.OpenShut
import Derived.Below
import Derived.ShutString
namespace Go.Proofs.Qxb6000730a.fnUnquoteReadsOnAfterQuoteExactlyAsDocumented
open Go.ChangeShapes Go.WideShapes Go.ChangeAt Go.RowKit
open Go.ChangeMaps (open_string shut_string)
set_option linter.unusedVariables false      -- a walk need not use every 'w<i>' (that an integer argument fits its kind)

theorem own : ownKnob Try.prog.godebug = none := by kernel_rfl

/-! ### THE WALK: the Go text returns true and writes nothing that was there. -/
theorem walk (a0 : ByteArray) (a1 : ByteArray) (a2 : Bool) (a3 : Int) (a4 : Bool) (a5 : Bool) (a6 : ByteArray) (w0 : a0.size ≤ maxLen) (w1 : a1.size ≤ maxLen) (w3 : (Lit.int .u8 a3).wf = true) (w6 : a6.size ≤ maxLen) (w : World) :
    Calls Try.prog 9 #[.string a0, .string a1, .bool a2, .int .u8 a3, .bool a4, .bool a5, .string a6] w fun e w' => e = .returned (.bool true) ∧ Below w.heap.size w w' := by
  have b3 := bounds_u8 w3
  by_cases h : 1048576 < a0.size + a1.size + a6.size
  · exact UnqLaw.toolong a0 a1 a6 a2 a4 a5 a3 w w0 w1 w6 h
  have h' : a0.size + a1.size + a6.size ≤ 1048576 := by omega
  by_cases g1 : 65536 < a0.size
  · exact UnqLaw.long1 a0 a1 a6 a2 a4 a5 a3 w h' g1
  by_cases g2 : 65536 < a1.size
  · exact UnqLaw.long2 a0 a1 a6 a2 a4 a5 a3 w h' (by omega) g2
  by_cases g3 : 65536 < a6.size
  · exact UnqLaw.long3 a0 a1 a6 a2 a4 a5 a3 w h' (by omega) (by omega) g3
  by_cases hz0 : a3 = 0
  · subst hz0
    exact UnqLaw.zero a0 a1 a6 a2 a4 a5 w h' (by omega) (by omega) (by omega)
  obtain ⟨bn, hN⟩ := Hide.exB (∀ c ∈ Num.lst a0, Open.nameB c)
  obtain ⟨bk, hK⟩ := Hide.exB (∀ c ∈ Num.lst a1, Open.keyB c)
  obtain ⟨n, rfl⟩ := Int.eq_ofNat_of_zero_le b3.1
  cases a5 with
  | false =>
    obtain ⟨bv, hV⟩ := Hide.exB (∀ c ∈ Num.lst a6, c ≠ 34)
    cases bn with
    | false => exact UnqLaw.bad_name_false a0 a1 a6 a2 a4 n w h' (by omega) (by omega) (by omega) (by omega) (by omega) hN
    | true =>
      by_cases hz : a1.size = 0
      · exact UnqLaw.bad_empty_false a0 a1 a6 a2 a4 n w h' (by omega) (by omega) (by omega) (by omega) (by omega) hN hz
      cases bk with
      | false => exact UnqLaw.bad_key_false a0 a1 a6 a2 a4 n w h' (by omega) (by omega) (by omega) (by omega) (by omega) hN (by omega) hK
      | true =>
        cases bv with
        | false => exact UnqLaw.bad_val_false a0 a1 a6 a2 a4 n w h' (by omega) (by omega) (by omega) (by omega) (by omega) hN (by omega) hK hV
        | true => exact UnqLaw.main_false a0 a1 a6 a2 a4 n w h' (by omega) (by omega) (by omega) (by omega) (by omega) hN (by omega) hK hV
  | true =>
    obtain ⟨bv, hV⟩ := Hide.exB (∀ c ∈ Num.lst a6, c ≠ 39)
    cases bn with
    | false => exact UnqLaw.bad_name_true a0 a1 a6 a2 a4 n w h' (by omega) (by omega) (by omega) (by omega) (by omega) hN
    | true =>
      by_cases hz : a1.size = 0
      · exact UnqLaw.bad_empty_true a0 a1 a6 a2 a4 n w h' (by omega) (by omega) (by omega) (by omega) (by omega) hN hz
      cases bk with
      | false => exact UnqLaw.bad_key_true a0 a1 a6 a2 a4 n w h' (by omega) (by omega) (by omega) (by omega) (by omega) hN (by omega) hK
      | true =>
        cases bv with
        | false => exact UnqLaw.bad_val_true a0 a1 a6 a2 a4 n w h' (by omega) (by omega) (by omega) (by omega) (by omega) hN (by omega) hK hV
        | true => exact UnqLaw.main_true a0 a1 a6 a2 a4 n w h' (by omega) (by omega) (by omega) (by omega) (by omega) hN (by omega) hK hV

/-! ### THE ROW's STEP -/
set_option maxRecDepth 100000 in
theorem lifted (os : Os) (started : os.Started) (H : Type) (enc : TypeId × Value → H) :
    ReturnsInHanded {} Try.checked os 9 .any (Rows.fnUnquoteReadsOnAfterQuoteExactlyAsDocumentedSpec.pre6 enc Try.prog Try.f9 Rows.fnUnquoteReadsOnAfterQuoteExactlyAsDocumentedRow.domain false) (Rows.fnUnquoteReadsOnAfterQuoteExactlyAsDocumentedSpec.post enc Try.prog Try.f9 false true false false) := by
  refine returnsInHanded_of_change (C := Try.checked) own started (by kernel_rfl) Try.func9
    (ChangeSpec.witness6 (enc := enc) (C := Try.checked) false ⟨#[], #[.string ByteArray.empty, .string ByteArray.empty, .bool false, .int .u8 0, .bool false, .bool false, .string ByteArray.empty], []⟩ 8 (by kernel_rfl) (by kernel_rfl) (by kernel_rfl) (by kernel_rfl)) ?_
  intro W base args ds gs before hval0 hW hcnd _
  have hval : ∀ (j : Nat) t v, Try.f9.params[j]? = some t → args[j]? = some v → Value.okWide Try.prog W .any base t v := hval0
  have hW' := hW
  obtain ⟨p, q, hA0, hV, rfl, hfz, hnd⟩ := hW
  have hA : DataW.TrodAll enc Try.prog W 0 (fun _ => true) true Try.f9.params.toList args.toList ds p := hA0
  rw [Try.params9] at hA hval
  obtain ⟨v0, vs0, d0, ds0, p0, q0, hargs, rfl, rfl, h0, r0⟩ := trodAll_cons hA
  obtain ⟨v1, vs1, d1, ds1, p1, q1, rfl, rfl, rfl, h1, r1⟩ := trodAll_cons r0
  obtain ⟨v2, vs2, d2, ds2, p2, q2, rfl, rfl, rfl, h2, r2⟩ := trodAll_cons r1
  obtain ⟨v3, vs3, d3, ds3, p3, q3, rfl, rfl, rfl, h3, r3⟩ := trodAll_cons r2
  obtain ⟨v4, vs4, d4, ds4, p4, q4, rfl, rfl, rfl, h4, r4⟩ := trodAll_cons r3
  obtain ⟨v5, vs5, d5, ds5, p5, q5, rfl, rfl, rfl, h5, r5⟩ := trodAll_cons r4
  obtain ⟨v6, vs6, d6, ds6, p6, q6, rfl, rfl, rfl, h6, r6⟩ := trodAll_cons r5
  obtain ⟨rfl, rfl, rfl⟩ := trodAll_nil r6
  obtain rfl : args = #[v0, v1, v2, v3, v4, v5, v6] := by cases args; simp_all
  obtain ⟨rfl, rfl⟩ := trodVars_none hV
  obtain ⟨a0, rfl, rfl, rfl, w0⟩ := open_string Try.underlying9 (hval 0 9 v0 rfl rfl) h0
  obtain ⟨a1, rfl, rfl, rfl, w1⟩ := open_string Try.underlying9 (hval 1 9 v1 rfl rfl) h1
  obtain ⟨a2, rfl, rfl, rfl⟩ := open_bool Try.underlying4 (hval 2 4 v2 rfl rfl) h2
  obtain ⟨a3, rfl, rfl, rfl, w3⟩ := open_int Try.underlying5 (hval 3 5 v3 rfl rfl) h3
  obtain ⟨a4, rfl, rfl, rfl⟩ := open_bool Try.underlying4 (hval 4 4 v4 rfl rfl) h4
  obtain ⟨a5, rfl, rfl, rfl⟩ := open_bool Try.underlying4 (hval 5 4 v5 rfl rfl) h5
  obtain ⟨a6, rfl, rfl, rfl, w6⟩ := open_string Try.underlying9 (hval 6 9 v6 rfl rfl) h6
  clear hA0 hval0
  simp only [List.append_nil] at hW'
  refine (walk a0 a1 a2 a3 a4 a5 a6 w0 w1 w3 w6 W).mono fun e W' ⟨he, bel⟩ => ?_
  subst he
  exact ⟨_, rfl, _, _, _, [], [], [], hW', trodAll_mk1 (shut_bool Try.underlying4 _), (trodAll_cons_mk (shut_string Try.underlying9 w0) (trodAll_cons_mk (shut_string Try.underlying9 w1) (trodAll_cons_mk (shut_bool Try.underlying4 _) (trodAll_cons_mk (shut_int Try.underlying5 w3) (trodAll_cons_mk (shut_bool Try.underlying4 _) (trodAll_cons_mk (shut_bool Try.underlying4 _) (trodAll_cons_mk (shut_string Try.underlying9 w6) trodAll_mk0))))))), rfl, bel.frame _, fun h => by cases h⟩

theorem closed : joinedFacts Try.prog 9 Try.f9 Rows.fnUnquoteReadsOnAfterQuoteExactlyAsDocumentedSpec Rows.fnUnquoteReadsOnAfterQuoteExactlyAsDocumentedRow = true := by
  unfold joinedFacts
  rw [Head.may, Head.lifts, Head.make]
  kernel_rfl

theorem over : Rows.fnUnquoteReadsOnAfterQuoteExactlyAsDocumentedRow.holds Try.pinned (OpenSpec.ofChange Rows.fnUnquoteReadsOnAfterQuoteExactlyAsDocumentedSpec) :=
  OpenClaim.holds_of_wide 9 Try.f9 rfl rfl rfl rfl rfl rfl rfl ⟨rfl, rfl, rfl, rfl, rfl⟩ rfl rfl rfl rfl rfl (by kernel_rfl) Try.func9 closed
    (of_decide_eq_true (by kernel_rfl)) (by unfold Func.isWrapper; first | (rw [if_pos (by decide +kernel)]; kernel_rfl) | (rw [if_neg (by decide +kernel)]; exact ⟨rfl, rfl⟩))
    (fun os started H enc _ => lifted os started H enc)

/-- ████ THE STATEMENT ████ -/
theorem proved : Rows.FnUnquoteReadsOnAfterQuoteExactlyAsDocumentedSaid :=
  over
end Go.Proofs.Qxb6000730a.fnUnquoteReadsOnAfterQuoteExactlyAsDocumented

namespace Go.Proofs.Qxb6000730a
theorem fnUnquoteReadsOnAfterQuoteExactlyAsDocumented_holds : Rows.FnUnquoteReadsOnAfterQuoteExactlyAsDocumentedSaid := fnUnquoteReadsOnAfterQuoteExactlyAsDocumented.proved
end Go.Proofs.Qxb6000730a

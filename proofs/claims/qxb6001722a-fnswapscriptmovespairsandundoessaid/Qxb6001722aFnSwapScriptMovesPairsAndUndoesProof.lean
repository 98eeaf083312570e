/-
  'Rows.FnSwapScriptMovesPairsAndUndoesSaid', proved: the frame after the guide's template for a law over slices, the walks lie in Qxb6001722aSwapL, SwapLt, SwapGe.
-/
import Derived.Test.Qxb6001722aHead
import Derived.Test.Qxb6001722aSwapL
import Derived.Test.Qxb6001722aSwapLt
import Derived.Test.Qxb6001722aSwapGe
import Derived.WalkKit
import Derived.ProofKit
import Derived.OpenShut
import Derived.ShutString
import Derived.SliceStrings
import Derived.ChangeOld
import Derived.Below
namespace Go.Proofs.Qxb6001722a.fnSwapScriptMovesPairsAndUndoes
open Go.ChangeShapes Go.WideShapes Go.ChangeAt Go.RowKit
open Swap (Arg str num)
set_option linter.unusedVariables false

theorem own : ownKnob Try.prog.godebug = none := by kernel_rfl
theorem laidOut : laidOutB Try.prog = true := by kernel_rfl

/-! ### THE WALK: the Go text returns true and writes nothing that was there. -/
theorem walk (a0 a1 a2 a3 : Option Addr) (len0 len1 len2 len3 cap0 cap1 cap2 cap3 : Nat) (S T : Nat → ByteArray) (Z Y : Nat → Int) (w : World)
    (h0 : Arg w a0 len0 (str S)) (h1 : Arg w a1 len1 (str T)) (h2 : Arg w a2 len2 (num Z)) (h3 : Arg w a3 len3 (num Y)) :
    Calls Try.prog 6 #[.slice a0 len0 cap0, .slice a1 len1 cap1, .slice a2 len2 cap2, .slice a3 len3 cap3] w fun e w' => e = .returned (.bool true) ∧ Below w.heap.size w w' := by
  by_cases l0 : 1024 < len0
  · exact Swap.long0 a0 a1 a2 a3 len0 len1 len2 len3 cap0 cap1 cap2 cap3 S T w h0 h1 l0
  by_cases l1 : 1024 < len1
  · exact Swap.long1 a0 a1 a2 a3 len0 len1 len2 len3 cap0 cap1 cap2 cap3 S T w h0 h1 (by omega) l1
  by_cases l2 : 4096 < len2
  · exact Swap.long2 a0 a1 a2 a3 len0 len1 len2 len3 cap0 cap1 cap2 cap3 S T w h0 h1 (by omega) (by omega) l2
  by_cases l3 : 4096 < len3
  · exact Swap.long3 a0 a1 a2 a3 len0 len1 len2 len3 cap0 cap1 cap2 cap3 S T w h0 h1 (by omega) (by omega) (by omega) l3
  by_cases he : len2 = len3
  · by_cases hm : len1 < len0
    · exact Swap.goLt a0 a1 a2 a3 len0 len1 len2 len3 cap0 cap1 cap2 cap3 S T Z Y w h0 h1 h2 h3 (by omega) (by omega) (by omega) (by omega) he hm
    · exact Swap.goGe a0 a1 a2 a3 len0 len1 len2 len3 cap0 cap1 cap2 cap3 S T Z Y w h0 h1 h2 h3 (by omega) (by omega) (by omega) (by omega) he hm
  · exact Swap.differ a0 a1 a2 a3 len0 len1 len2 len3 cap0 cap1 cap2 cap3 S T w h0 h1 (by omega) (by omega) (by omega) (by omega) (by omega)

section
variable {H : Type} {enc : TypeId × Value → H} {W : World}

theorem arg_of_cells {x : Addr} {n len : Nat} {V : Nat → Value} (hle : len ≤ n) (hc : ∀ i, i < n → W.cell? (x.add i) = some (V i)) : Arg W (some x) len V := by
  intro p hp
  obtain ⟨b, off, spot⟩ := x
  have hspot : spot = none := by simpa [Addr.add] using World.cell?_spot (hc 0 (by omega))
  subst hspot
  exact ⟨b, off, rfl, fun q hq => by rw [← Go.WideShapes.add_plain]; exact hc q (by omega)⟩

/-- A slice of strings, opened. -/
theorem open46 {a : Option Addr} {len cap : Nat} {d : DataW H} {p : List MemPlace} (h : ∃ fuel, DataW.trod enc Try.prog W 0 (fun _ => true) true fuel 46 (Value.slice a len cap).cells.toList = some (d, p)) : ∃ S, Arg W a len (str S) := by
  obtain ⟨fuel, hf⟩ := h
  rcases open_strings Try.underlying46 Try.underlying9 (by kernel_rfl) hf with ⟨hcs, _⟩ | ⟨x, l, c, ss, hcs, _, hl, hm, hz, _, hcell, hwz⟩
  · simp [Value.cells] at hcs
    obtain ⟨rfl, rfl, rfl⟩ := hcs
    exact ⟨fun _ => ByteArray.empty, fun p hp => by omega⟩
  · simp [Value.cells] at hcs
    obtain ⟨rfl, rfl, rfl⟩ := hcs
    have hz' : ss.length = cap := by simpa using hz
    exact ⟨fun i => ss.getD i ByteArray.empty, arg_of_cells (n := ss.length) (by omega) hcell⟩

/-- A slice of numbers, opened. -/
theorem open28 {a : Option Addr} {len cap : Nat} {d : DataW H} {p : List MemPlace} (h : ∃ fuel, DataW.trod enc Try.prog W 0 (fun _ => true) true fuel 28 (Value.slice a len cap).cells.toList = some (d, p)) : ∃ Z, Arg W a len (num Z) := by
  obtain ⟨fuel, hf⟩ := h
  rcases open_ints Try.underlying28 Try.underlying3 (by kernel_rfl) hf with ⟨hcs, _⟩ | ⟨x, l, c, zs, hcs, _, hl, hm, hz, _, hcell, hwz⟩
  · simp [Value.cells] at hcs
    obtain ⟨rfl, rfl, rfl⟩ := hcs
    exact ⟨fun _ => 0, fun p hp => by omega⟩
  · simp [Value.cells] at hcs
    obtain ⟨rfl, rfl, rfl⟩ := hcs
    have hz' : zs.length = cap := by simpa using hz
    exact ⟨fun i => zs.getD i 0, arg_of_cells (n := zs.length) (by omega) hcell⟩
end

/-! ### THE ROW's STEP -/
set_option maxRecDepth 100000 in
theorem lifted (os : Os) (started : os.Started) (H : Type) (enc : TypeId × Value → H) :
    ReturnsInHanded {} Try.checked os 6 .any (Rows.fnSwapScriptMovesPairsAndUndoesSpec.pre6 enc Try.prog Try.f6 Rows.fnSwapScriptMovesPairsAndUndoesRow.domain false) (Rows.fnSwapScriptMovesPairsAndUndoesSpec.post enc Try.prog Try.f6 false true false false) := by
  refine returnsInHanded_of_change (C := Try.checked) own started (by kernel_rfl) Try.func6
    (ChangeSpec.witness6 (enc := enc) (C := Try.checked) false ⟨#[], #[.slice none 0 0, .slice none 0 0, .slice none 0 0, .slice none 0 0], []⟩ 8 (by kernel_rfl) (by kernel_rfl) (by kernel_rfl) (by kernel_rfl)) ?_
  intro W base args ds gs before hval0 hW hcnd _
  have hval : ∀ (j : Nat) t v, Try.f6.params[j]? = some t → args[j]? = some v → Value.okWide Try.prog W .any base t v := hval0
  have hW' := hW
  obtain ⟨p, q, hA0, hV, rfl, hfz, hnd⟩ := hW
  have hA : DataW.TrodAll enc Try.prog W 0 (fun _ => true) true Try.f6.params.toList args.toList ds p := hA0
  rw [Try.params6] at hA hval
  obtain ⟨v0, vs0, d0, ds0, p0, q0, hargs, rfl, rfl, h0, r0⟩ := trodAll_cons hA
  obtain ⟨v1, vs1, d1, ds1, p1, q1, rfl, rfl, rfl, h1, r1⟩ := trodAll_cons r0
  obtain ⟨v2, vs2, d2, ds2, p2, q2, rfl, rfl, rfl, h2, r2⟩ := trodAll_cons r1
  obtain ⟨v3, vs3, d3, ds3, p3, q3, rfl, rfl, rfl, h3, r3⟩ := trodAll_cons r2
  obtain ⟨rfl, rfl, rfl⟩ := trodAll_nil r3
  obtain rfl : args = #[v0, v1, v2, v3] := by cases args; simp_all
  obtain ⟨rfl, rfl⟩ := trodVars_none hV
  obtain ⟨a0, len0, cap0, rfl⟩ := okWide_slice Try.underlying46 (hval 0 46 v0 rfl rfl)
  obtain ⟨a1, len1, cap1, rfl⟩ := okWide_slice Try.underlying46 (hval 1 46 v1 rfl rfl)
  obtain ⟨a2, len2, cap2, rfl⟩ := okWide_slice Try.underlying28 (hval 2 28 v2 rfl rfl)
  obtain ⟨a3, len3, cap3, rfl⟩ := okWide_slice Try.underlying28 (hval 3 28 v3 rfl rfl)
  have lt0 : ∀ x ∈ p0, x.block < W.heap.size := by obtain ⟨m, hm⟩ := h0; exact DataW.trod_lt m _ _ _ hm
  have lt1 : ∀ x ∈ p1, x.block < W.heap.size := by obtain ⟨m, hm⟩ := h1; exact DataW.trod_lt m _ _ _ hm
  have lt2 : ∀ x ∈ p2, x.block < W.heap.size := by obtain ⟨m, hm⟩ := h2; exact DataW.trod_lt m _ _ _ hm
  have lt3 : ∀ x ∈ p3, x.block < W.heap.size := by obtain ⟨m, hm⟩ := h3; exact DataW.trod_lt m _ _ _ hm
  obtain ⟨S, z0⟩ := open46 h0
  obtain ⟨T, z1⟩ := open46 h1
  obtain ⟨Z, z2⟩ := open28 h2
  obtain ⟨Y, z3⟩ := open28 h3
  clear hA0 hval0
  refine (walk a0 a1 a2 a3 len0 len1 len2 len3 cap0 cap1 cap2 cap3 S T Z Y W z0 z1 z2 z3).mono fun e W' ⟨he, bel⟩ => ?_
  subst he
  exact ⟨_, rfl, _, _, _, [], _, [], hW', trodAll_mk1 (shut_bool Try.underlying4 _), (trodAll_cons_mk (Below.trod laidOut (by kernel_rfl) (of_decide_eq_true (by kernel_rfl)) h0 bel lt0) (trodAll_cons_mk (Below.trod laidOut (by kernel_rfl) (of_decide_eq_true (by kernel_rfl)) h1 bel lt1) (trodAll_cons_mk (Below.trod laidOut (by kernel_rfl) (of_decide_eq_true (by kernel_rfl)) h2 bel lt2) (trodAll_cons_mk (Below.trod laidOut (by kernel_rfl) (of_decide_eq_true (by kernel_rfl)) h3 bel lt3) trodAll_mk0)))), rfl, bel.frame _, fun h => by cases h⟩

theorem closed : joinedFacts Try.prog 6 Try.f6 Rows.fnSwapScriptMovesPairsAndUndoesSpec Rows.fnSwapScriptMovesPairsAndUndoesRow = true := by
  unfold joinedFacts
  rw [Head.may, Head.lifts, Head.make]
  kernel_rfl

theorem over : Rows.fnSwapScriptMovesPairsAndUndoesRow.holds Try.pinned (OpenSpec.ofChange Rows.fnSwapScriptMovesPairsAndUndoesSpec) :=
  OpenClaim.holds_of_wide 6 Try.f6 rfl rfl rfl rfl rfl rfl rfl ⟨rfl, rfl, rfl, rfl, rfl⟩ rfl rfl rfl rfl rfl (by kernel_rfl) Try.func6 closed
    (of_decide_eq_true (by kernel_rfl)) (by unfold Func.isWrapper; first | (rw [if_pos (by decide +kernel)]; kernel_rfl) | (rw [if_neg (by decide +kernel)]; exact ⟨rfl, rfl⟩))
    (fun os started H enc _ => lifted os started H enc)

/-- The statement. -/
theorem proved : Rows.FnSwapScriptMovesPairsAndUndoesSaid := over
end Go.Proofs.Qxb6001722a.fnSwapScriptMovesPairsAndUndoes

namespace Go.Proofs.Qxb6001722a
theorem fnSwapScriptMovesPairsAndUndoes_holds : Rows.FnSwapScriptMovesPairsAndUndoesSaid := fnSwapScriptMovesPairsAndUndoes.proved
end Go.Proofs.Qxb6001722a

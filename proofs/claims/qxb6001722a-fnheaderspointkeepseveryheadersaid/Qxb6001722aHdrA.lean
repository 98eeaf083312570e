/-
  The callees of the headers law: zzBytes, zzCloneInts, ZZMakeValueG1, ZZValueTextG1.
-/
import Derived.Test.Qxb6001722aSwapY
import Derived.Test.Qxb6001722aItoa
import Derived.Laws.Cover3
namespace Go.Proofs.Qxb6001722a
open Go.ChangeShapes Go.WideShapes Go.ChangeAt Go.RowKit
namespace Hdr
open Swap (Arg num Row Boolish boolish grown_alloc size39 mk3)
set_option linter.unusedVariables false

set_option maxRecDepth 100000 in
set_option maxHeartbeats 1600000 in
theorem bytes (a : Option Addr) (len cap : Nat) (w : World) : Calls Try.prog 11 #[.slice a len cap] w fun e w' => Boolish e ∧ w' = w := by
  go_enter Try.func11, Try.ntmps11
  go_wp2
  all_goals (go_ret; exact ⟨boolish _, rfl⟩)

set_option maxRecDepth 100000 in
set_option maxHeartbeats 1600000 in
theorem text (g o : Nat) (A : ByteArray) (w : World) (hc : w.cell? ⟨g, o, none⟩ = some (.string A)) :
    Calls Try.prog 16 #[.pointer (some ⟨g, o, none⟩)] w fun e w' => e = .returned (.string A) ∧ w' = w := by
  go_enter Try.func16, Try.ntmps16
  go_wp2
  go_ret
  exact ⟨rfl, rfl⟩

set_option maxRecDepth 100000 in
set_option maxHeartbeats 1600000 in
theorem make (A : ByteArray) (w : World) :
    Calls Try.prog 13 #[.string A, .int .u64 2, .pointer none] w fun e w' => e = .returned (.agg #[.string A, .pointer none, .int .u64 2]) ∧ w.grownBy w' none := by
  go_enter Try.func13, Try.ntmps13
  go_wp2
  refine bodyPost_ret (results_cell_row rfl _ _ w.heap.size 39 _ (0, 0) _ rfl (heap_alloc_new _ _) Try.underlying39 rfl size39) rfl ?_
  exact ⟨rfl, grown_alloc _ _ _⟩

theorem eql28 (w : World) (a : Option Addr) (l c : Nat) : (binOp .eql 28 (.slice a l c) (.slice none 0 0)).run Try.prog w = .ok (.bool a.isNone) w := by
  simp [binOp, run_equal_slice_nil w 28 3 a l c Try.underlying28]

/-- The clone: as many numbers, the same. -/
def Cloned (w w' : World) (len : Nat) (Z : Nat → Int) (e : Ending) : Prop := ∃ ao cap, e = .returned (.slice ao len cap) ∧ Arg w' ao len (num Z) ∧ Below w.heap.size w w'

set_option maxRecDepth 100000 in
set_option maxHeartbeats 1600000 in
theorem clone_nil (Z : Nat → Int) (w : World) : Calls Try.prog 12 #[.slice none 0 0] w fun e w' => Cloned w w' 0 Z e := by
  have heq := eql28 w none 0 0
  go_enter Try.func12, Try.ntmps12
  go_wp2
  go_ret
  exact ⟨none, 0, rfl, fun p hp => by omega, Below.refl _ _⟩

set_option maxRecDepth 100000 in
set_option maxHeartbeats 1600000 in
theorem clone_some (x : Addr) (len cap : Nat) (Z : Nat → Int) (w : World) (h : Arg w (some x) len (num Z)) (hl : len ≤ 1024) : Calls Try.prog 12 #[.slice (some x) len cap] w fun e w' => Cloned w w' len Z e := by
  have heq := eql28 w (some x) len cap
  go_enter Try.func12, Try.ntmps12
  go_wp2_with (first | (at_make; refine mk3 w rfl (.tmp 8) (.tmp 8) rfl _ _ _ _ len rfl rfl rfl rfl (by omega) ?_; intro w1 cur1 hh1 hs1 hb1 hl1))
  have R0 : ∃ V, Row w1 w.heap.size len V ∧ ∀ q, q < 0 → V q = num Z q := ⟨_, Row.of_heap hh1.out (by simpa using hs1.out), fun q hq => by omega⟩
  have HR : Hid (∃ V, Row w1 w.heap.size len V ∧ ∀ q, q < 0 → V q = num Z q) := R0
  clear R0 hh1 hs1
  go_loopw [4] (fun iv wr => ∃ k : Nat, iv = .int .i64 k ∧ k ≤ len ∧ Hid (∃ V, Row wr w.heap.size len V ∧ ∀ q, q < k → V q = num Z q) ∧ Below w.heap.size w wr ∧ w.heap.size < wr.heap.size) (fun iv _ => len - (intOf iv).toNat)
  case atStart => exact ⟨0, rfl, by omega, HR, hb1, hl1⟩
  case round =>
    clear HR hb1 hl1
    obtain ⟨k, rfl, hk, hR, hb, hlt⟩ := hrel
    by_cases hkl : k < len
    · obtain ⟨b, off, e, hc⟩ := h.num_at k hkl
      cases e
      have hbl : b < w.heap.size := World.block_lt_of_cell? w _ hc
      have hc' : wr.cell? ⟨b, off + k, none⟩ = some (.int .i64 (Z k)) := (hb.cell hbl).trans hc
      obtain ⟨V, hV, hq⟩ := hR.out
      have hf := hV.free
      have hv := hV.cell k hkl
      have HQ : Hid (∀ q, q < k → V q = num Z q) := hq
      clear hq hR
      go_wp2
      go_roundw
      case rel =>
        refine ⟨k + 1, rfl, by omega, ⟨_, hV.set k _, fun q hq => ?_⟩, hb.setCell (Nat.le_refl _) _, by simpa using hlt⟩
        unfold Swap.updv
        by_cases e : q = k
        · rw [if_pos e, e]; rfl
        · rw [if_neg e]; exact HQ.out q (by omega)
      case measure => simp [intOf]; omega
    · have e : k = len := by omega
      subst e
      go_wp2
      go_ret
      obtain ⟨V, hV, hq⟩ := hR.out
      exact ⟨_, _, rfl, fun p hp => ⟨w.heap.size, 0, rfl, fun q hq' => by rw [Nat.zero_add, hV.cell q hq', hq q hq']⟩, hb⟩

theorem clone (a : Option Addr) (len cap : Nat) (Z : Nat → Int) (w : World) (h : Arg w a len (num Z)) (h0 : a = none → len = 0 ∧ cap = 0) (hl : len ≤ 1024) : Calls Try.prog 12 #[.slice a len cap] w fun e w' => Cloned w w' len Z e := by
  cases a with
  | none =>
    obtain ⟨rfl, rfl⟩ := h0 rfl
    exact clone_nil Z w
  | some x => exact clone_some x len cap Z w h hl

end Hdr
end Go.Proofs.Qxb6001722a

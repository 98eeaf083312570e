/-
  ZZNewStartTag; the bounds' functions (zzBytes_..) of the laws over tags.
-/
import Derived.Test.Qxb6000730aTagAll
import Derived.Laws.Tables
import Derived.Laws.Rows
namespace Go.Proofs.Qxb6000730a
open Go.ChangeShapes Go.WideShapes Go.ChangeAt Go.RowKit
namespace Tag
set_option linter.unusedVariables false

/-- A fresh start tag's cells. -/
def fresh : Array Value := #[.int .u8 1, .int .i64 0, .int .u8 0, .int .u8 0, .int .u8 0, .int .u8 0, .int .u8 0, .int .u8 0, .int .u8 0, .int .u8 0, .int .i64 0, .int .u8 0, .int .i64 0, .int .u8 0, .int .u8 0, .int .i64 0, .bool false, .bool false, .bool false, .int .u8 0, .int .i64 0, .bool false, .bool false]

theorem size45 : (Try.prog.info? 45).map (·.size) = some fresh.size := by kernel_rfl
theorem fresh_one : fresh.all (·.oneCell') = true := by simp [fresh, Value.oneCell']

theorem setRow_below {B : Nat} {w w' : World} (h : Below B w w') (g : Nat) (hg : B ≤ g) (cs : Array Value) : Below B w (w'.setRow g cs) := by
  refine h.trans ⟨rfl, rfl, rfl, by simp, fun k hk => ?_⟩
  simp only [World.setRow, Array.getElem?_modify]
  rw [if_neg (by omega)]

theorem heap_setRow_alloc (w : World) (c c' : Array Value) (t : TypeId) : ((w.alloc (.cells c t)).setRow w.heap.size c').heap[w.heap.size]? = some (.cells c' t (0, 0)) := by
  have h := heap_alloc_new w (.cells c t)
  simp only [World.setRow, Array.getElem?_modify, if_true, h]
  rfl

set_option maxRecDepth 100000 in
theorem new_any (w : World) : Calls Try.prog 21 #[] w fun e w' => e = .returned (.agg fresh) ∧ Below w.heap.size w w' := by
  go_enter Try.func21, Try.ntmps21
  go_wp2_with (refine wpList_store_row rfl 45 (.tmp 0) (.tmp 1) rfl w.heap.size fresh rfl rfl 45 _ (heap_alloc_new w _) size45 rfl fresh_one ?_)
  refine bodyPost_ret (results_cell_row rfl _ _ w.heap.size 45 fresh (0, 0) _ rfl (heap_setRow_alloc _ _ _ _) Try.underlying45 rfl size45) rfl ?_
  exact ⟨rfl, setRow_below ((Below.refl _ _).alloc (Nat.le_refl _) _) _ (Nat.le_refl _) _⟩

/-- A fresh markup. -/
def m0 : M := ⟨0, 0, 0, 0, false, false, false, 0, 0, false, false⟩

theorem fresh_box {w : World} {b : Nat} (h : w.heap[b]? = some (.cells fresh 45 (0, 0))) : Box b m0 w := by
  have hc := fun j => cell_of_row w b j fresh 45 (0, 0) h
  refine ⟨fun o => frozen_of_row w b o fresh 45 h, ?_, fun j hj => ?_, ?_, ?_, ?_, ?_, ?_, ?_, ?_, ?_, ?_, ?_, ?_⟩
  case refine_2 =>
    have : j = 0 ∨ j = 1 ∨ j = 2 ∨ j = 3 ∨ j = 4 ∨ j = 5 ∨ j = 6 ∨ j = 7 := by omega
    rcases this with rfl | rfl | rfl | rfl | rfl | rfl | rfl | rfl <;> exact ⟨0, (hc _).trans rfl⟩
  all_goals exact (hc _).trans rfl

theorem bytes7_yes (s : ByteArray) (l : Bool) (w : World) (h : s.size ≤ 1048576) : Calls Try.prog 23 #[.string s, .bool l] w fun e w' => e = .returned (.bool true) ∧ w = w' := by
  go_enter Try.func23, Try.ntmps23
  go_wp2
  go_ret
  exact ⟨rfl, rfl⟩
theorem bytes7_no (s : ByteArray) (l : Bool) (w : World) (hm : s.size ≤ maxLen) (h : 1048576 < s.size) : Calls Try.prog 23 #[.string s, .bool l] w fun e w' => e = .returned (.bool false) ∧ w = w' := by
  unfold maxLen at hm
  go_enter Try.func23, Try.ntmps23
  go_wp2
  go_ret
  exact ⟨rfl, rfl⟩
end Tag
end Go.Proofs.Qxb6000730a

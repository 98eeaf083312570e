/-
  byKey.Swap of a pair with itself; ZZSwap, ZZText, ZZNewValue: by their contracts.
-/
import Derived.Test.Qxb6001722aSwap
namespace Go.Proofs.Qxb6001722a
open Go.ChangeShapes Go.WideShapes Go.ChangeAt Go.RowKit
namespace Swap
set_option linter.unusedVariables false

set_option maxRecDepth 100000 in
set_option maxHeartbeats 1600000 in
theorem swap_eq (b g n cap i : Nat) (X : Nat → ByteArray) (w : World) (hi : i < n) (hn : n ≤ 1024) (hc : w.cell? ⟨b, 0, none⟩ = some (.slice (some ⟨g, 0, none⟩) (2 * n) cap)) (hv : Vals w g (2 * n) X) :
    Calls Try.prog 27 #[.pointer (some ⟨b, 0, none⟩), .int .i64 i, .int .i64 i] w fun e w' => e = .returned (.tuple #[]) ∧ Vals w' g (2 * n) (swp X i i) ∧ w.grownBy w' (some g) := by
  obtain ⟨I2, I3, oi, oi', wi, wi3, bi, bi', bi3, bi3', ti, ti3, eoi, eoi'⟩ := idx i n hi hn
  have hf := hv.free
  have c0 := hv.c0 (2 * i) (by omega)
  have c1 := hv.c1 (2 * i) (by omega)
  have c2 := hv.c2 (2 * i) (by omega)
  rw [← eoi] at c0 c1 c2
  have EI : Hid (oi = 3 * (2 * i)) := eoi
  have EI' : Hid (oi' = 3 * (2 * i + 1)) := eoi'
  clear eoi eoi'
  go_enter Try.func27, Try.ntmps27
  go_wp2
  go_region
  all_goals (try go_wp2)
  generalize hW : World.drew _ = W1
  have hV1 : Vals W1 g (2 * n) (upd (upd X (2 * i) (X (2 * i))) (2 * i) (X (2 * i))) := by
    rw [← hW]
    have h := (hv.put (2 * i) (by omega) (X (2 * i))).put (2 * i) (by omega) (X (2 * i))
    rw [← EI.out] at h
    exact h.drew
  have hG1 : w.grownBy W1 (some g) := by
    rw [← hW]
    exact grown_drew (grown_trans (grown_put w g oi (X (2 * i))) (grown_put _ g oi (X (2 * i))))
  clear hW c0 c1 c2 hf hc
  have hf := hV1.free
  have c0 := hV1.c0 (2 * i + 1) (by omega)
  have c1 := hV1.c1 (2 * i + 1) (by omega)
  have c2 := hV1.c2 (2 * i + 1) (by omega)
  rw [← EI'.out] at c0 c1 c2
  generalize hA : upd (upd X (2 * i) (X (2 * i))) (2 * i) (X (2 * i)) = X1 at hV1 c0
  have HA : Hid (upd (upd X (2 * i) (X (2 * i))) (2 * i) (X (2 * i)) = X1) := hA
  clear hA
  go_region
  all_goals (try go_wp2)
  go_end0
  refine ⟨rfl, ?_, ?_⟩
  · have h := (hV1.put (2 * i + 1) (by omega) (X1 (2 * i + 1))).put (2 * i + 1) (by omega) (X1 (2 * i + 1))
    rw [← EI'.out] at h
    refine h.drew.congr fun p hp => ?_
    rw [← HA.out]
    simp only [upd, swp]
    repeat' split
    all_goals first | rfl | omega | (congr 1; omega)
  · exact grown_trans hG1 (grown_drew (grown_trans (grown_put W1 g oi' (X1 (2 * i + 1))) (grown_put _ g oi' (X1 (2 * i + 1)))))

theorem swap (b g n cap i j : Nat) (X : Nat → ByteArray) (w : World) (hi : i < n) (hj : j < n) (hn : n ≤ 1024) (hc : w.cell? ⟨b, 0, none⟩ = some (.slice (some ⟨g, 0, none⟩) (2 * n) cap)) (hv : Vals w g (2 * n) X) :
    Calls Try.prog 27 #[.pointer (some ⟨b, 0, none⟩), .int .i64 i, .int .i64 j] w fun e w' => e = .returned (.tuple #[]) ∧ Vals w' g (2 * n) (swp X i j) ∧ w.grownBy w' (some g) := by
  by_cases e : i = j
  · subst e; exact swap_eq b g n cap i X w hi hn hc hv
  · exact swap_ne b g n cap i j X w hi hj hn e hc hv

theorem grown_alloc (w : World) (o : Obj) (g : Option Nat) : w.grownBy (w.alloc o) g := World.grownBy_alloc w o g
theorem Vals.grown {w w' : World} {g n : Nat} {X : Nat → ByteArray} {r : Option Nat} (h : Vals w g n X) (hg : w.grownBy w' r) (hlt : g < w.heap.size) (hr : some g ≠ r) : Vals w' g n X := h.block (hg.block g hlt hr)

set_option maxRecDepth 100000 in
set_option maxHeartbeats 1600000 in
theorem zzSwap (g n cap i j : Nat) (X : Nat → ByteArray) (w : World) (hi : i < n) (hj : j < n) (hn : n ≤ 1024) (hg : g < w.heap.size) (hv : Vals w g (2 * n) X) :
    Calls Try.prog 19 #[.slice (some ⟨g, 0, none⟩) (2 * n) cap, .int .i64 i, .int .i64 j] w fun e w' => e = .returned (.tuple #[]) ∧ Vals w' g (2 * n) (swp X i j) ∧ w.grownBy w' (some g) := by
  go_enter Try.func19, Try.ntmps19
  go_wp2_with (first | (go_at_call 27; refine (swap w.heap.size g n cap i j X _ hi hj hn (by simp [go_sem]) (hv.grown (grown_alloc _ _ none) hg (by simp))).mono ?_; rintro e w' ⟨rfl, hv', hg'⟩; have hGG := grown_trans (grown_alloc w _ (some g)) hg'; clear hg'))
  go_end0
  exact ⟨rfl, hv', hGG⟩

set_option maxRecDepth 100000 in
set_option maxHeartbeats 1600000 in
theorem zzText (g o : Nat) (A : ByteArray) (w : World) (hc : w.cell? ⟨g, o, none⟩ = some (.string A)) :
    Calls Try.prog 20 #[.pointer (some ⟨g, o, none⟩)] w fun e w' => e = .returned (.string A) ∧ w' = w := by
  go_enter Try.func20, Try.ntmps20
  go_wp2
  go_ret
  exact ⟨rfl, rfl⟩

theorem size39 : (Try.prog.info? 39).map (·.size) = some 3 := by kernel_rfl

set_option maxRecDepth 100000 in
set_option maxHeartbeats 1600000 in
theorem zzNew (A : ByteArray) (w : World) :
    Calls Try.prog 18 #[.string A, .pointer none, .int .u64 3] w fun e w' => e = .returned (.agg #[.string A, .pointer none, .int .u64 3]) ∧ w.grownBy w' none := by
  go_enter Try.func18, Try.ntmps18
  go_wp2
  refine bodyPost_ret (results_cell_row rfl _ _ w.heap.size 39 _ (0, 0) _ rfl (heap_alloc_new _ _) Try.underlying39 rfl size39) rfl ?_
  exact ⟨rfl, grown_alloc _ _ _⟩
end Swap
end Go.Proofs.Qxb6001722a

/-
  A slice of Values of the call's own, told by its texts; byKey.Swap, ZZSwap, ZZText, ZZNewValue: by their contracts.
-/
import Derived.Test.Qxb6001722aRows
import Derived.WalkKit
import Derived.ProofKit
import Derived.OpenShut
import Derived.Handy
import Derived.RegionTactic
import Derived.BigRegion
namespace Go.Proofs.Qxb6001722a
open Go.ChangeShapes Go.WideShapes Go.ChangeAt Go.RowKit
namespace Swap
set_option linter.unusedVariables false

/-- Block g holds n Values, each a text, no children, the number 3. -/
structure Vals (w : World) (g n : Nat) (X : Nat → ByteArray) : Prop where
  free : ∀ o, w.frozen? ⟨g, o, none⟩ = false
  c0 : ∀ p, p < n → w.cell? ⟨g, 3 * p, none⟩ = some (.string (X p))
  c1 : ∀ p, p < n → w.cell? ⟨g, 3 * p + 1, none⟩ = some (.pointer none)
  c2 : ∀ p, p < n → w.cell? ⟨g, 3 * p + 2, none⟩ = some (.int .u64 3)

def upd (X : Nat → ByteArray) (k : Nat) (A : ByteArray) : Nat → ByteArray := fun q => if q = k then A else X q
def put3 (w : World) (g o : Nat) (A : ByteArray) : World := ((w.setCell ⟨g, o, none⟩ (.string A)).setCell ⟨g, o + 1, none⟩ (.pointer none)).setCell ⟨g, o + 2, none⟩ (.int .u64 3)

theorem other {w : World} {b o p : Nat} {v : Value} (h : o ≠ p) : (w.setCell ⟨b, o, none⟩ v).cell? ⟨b, p, none⟩ = w.cell? ⟨b, p, none⟩ :=
  World.cell?_setCell_other _ _ _ _ (fun e => h (congrArg Addr.off e))

theorem Vals.put {w : World} {g n : Nat} {X : Nat → ByteArray} (h : Vals w g n X) (k : Nat) (hk : k < n) (A : ByteArray) : Vals (put3 w g (3 * k) A) g n (upd X k A) := by
  unfold put3
  refine ⟨fun o => by simpa using h.free o, fun p hp => ?_, fun p hp => ?_, fun p hp => ?_⟩
  · rw [other (by omega), other (by omega)]
    by_cases e : p = k
    · subst e
      rw [World.cell?_setCell_same _ _ _ (h.c0 p hp)]; simp [upd]
    · rw [other (by omega), h.c0 p hp]; simp [upd, e]
  · rw [other (by omega)]
    by_cases e : p = k
    · subst e
      have h1 : (w.setCell ⟨g, 3 * p, none⟩ (.string A)).cell? ⟨g, 3 * p + 1, none⟩ = some (.pointer none) := by rw [other (by omega)]; exact h.c1 p hp
      rw [World.cell?_setCell_same _ _ _ h1]
    · rw [other (by omega), other (by omega), h.c1 p hp]
  · by_cases e : p = k
    · subst e
      have h1 : ((w.setCell ⟨g, 3 * p, none⟩ (.string A)).setCell ⟨g, 3 * p + 1, none⟩ (.pointer none)).cell? ⟨g, 3 * p + 2, none⟩ = some (.int .u64 3) := by rw [other (by omega), other (by omega)]; exact h.c2 p hp
      rw [World.cell?_setCell_same _ _ _ h1]
    · rw [other (by omega), other (by omega), other (by omega), h.c2 p hp]
theorem Vals.drew {w : World} {g n : Nat} {X : Nat → ByteArray} (h : Vals w g n X) : Vals w.drew g n X := ⟨h.free, h.c0, h.c1, h.c2⟩
theorem Vals.congr {w : World} {g n : Nat} {X Y : Nat → ByteArray} (h : Vals w g n X) (e : ∀ p, p < n → X p = Y p) : Vals w g n Y :=
  ⟨h.free, fun p hp => by rw [← e p hp]; exact h.c0 p hp, h.c1, h.c2⟩
theorem Vals.block {w w' : World} {g n : Nat} {X : Nat → ByteArray} (h : Vals w g n X) (e : w'.heap[g]? = w.heap[g]?) : Vals w' g n X := by
  have hc : ∀ o, w'.cell? ⟨g, o, none⟩ = w.cell? ⟨g, o, none⟩ := fun o => World.cell?_of_block (w := w) (a := ⟨g, o, none⟩) e
  have hf : ∀ o, w'.frozen? ⟨g, o, none⟩ = w.frozen? ⟨g, o, none⟩ := fun o => World.frozen?_of_block (w := w) (a := ⟨g, o, none⟩) e
  exact ⟨fun o => (hf o).trans (h.free o), fun p hp => (hc _).trans (h.c0 p hp), fun p hp => (hc _).trans (h.c1 p hp), fun p hp => (hc _).trans (h.c2 p hp)⟩

theorem grown_set (w : World) (g o : Nat) (v : Value) : w.grownBy (w.setCell ⟨g, o, none⟩ v) (some g) :=
  ⟨rfl, rfl, rfl, by simp, fun k hk hne => heap_setCell_other _ _ _ _ (fun e => hne (by rw [e]))⟩
theorem grown_trans {w w1 w2 : World} {g : Nat} (h : w.grownBy w1 (some g)) (h' : w1.grownBy w2 (some g)) : w.grownBy w2 (some g) :=
  ⟨h'.os.trans h.os, h'.tape.trans h.tape, h'.output.trans h.output, Nat.le_trans h.size h'.size, fun k hk hne => (h'.block k (Nat.lt_of_lt_of_le hk h.size) hne).trans (h.block k hk hne)⟩
theorem grown_put (w : World) (g o : Nat) (A : ByteArray) : w.grownBy (put3 w g o A) (some g) :=
  grown_trans (grown_trans (grown_set w g o _) (grown_set _ g _ _)) (grown_set _ g _ _)
theorem grown_drew {w w1 : World} {g : Option Nat} (h : w.grownBy w1 g) : w.grownBy w1.drew g := ⟨h.os, h.tape, h.output, h.size, h.block⟩
theorem grown_refl (w : World) (g : Option Nat) : w.grownBy w g := ⟨rfl, rfl, rfl, Nat.le_refl _, fun _ _ _ => rfl⟩

/-- The pairs i and j change places. -/
def swp (X : Nat → ByteArray) (i j : Nat) : Nat → ByteArray := fun q => if q = 2 * i then X (2 * j) else if q = 2 * i + 1 then X (2 * j + 1) else if q = 2 * j then X (2 * i) else if q = 2 * j + 1 then X (2 * i + 1) else X q

theorem idx (k n : Nat) (hk : k < n) (hn : n ≤ 1024) : ∃ (I2 I3 : Int) (o o' : Nat), IntKind.i64.wrap (2 * (k : Int)) = I2 ∧ IntKind.i64.wrap (I2 + 1) = I3 ∧ 0 ≤ I2 ∧ I2 < 2 * (n : Int) ∧ 0 ≤ I3 ∧ I3 < 2 * (n : Int) ∧ I2.toNat * 3 = o ∧ I3.toNat * 3 = o' ∧ o = 3 * (2 * k) ∧ o' = 3 * (2 * k + 1) := by
  refine ⟨2 * (k : Int), 2 * (k : Int) + 1, 3 * (2 * k), 3 * (2 * k + 1), ?_, ?_, by omega, by omega, by omega, by omega, by omega, by omega, rfl, rfl⟩
  · rw [IntKind.wrap_i64]; omega
  · rw [IntKind.wrap_i64]; omega

set_option maxRecDepth 100000 in
set_option maxHeartbeats 1600000 in
theorem swap_ne (b g n cap i j : Nat) (X : Nat → ByteArray) (w : World) (hi : i < n) (hj : j < n) (hn : n ≤ 1024) (hij : i ≠ j) (hc : w.cell? ⟨b, 0, none⟩ = some (.slice (some ⟨g, 0, none⟩) (2 * n) cap)) (hv : Vals w g (2 * n) X) :
    Calls Try.prog 27 #[.pointer (some ⟨b, 0, none⟩), .int .i64 i, .int .i64 j] w fun e w' => e = .returned (.tuple #[]) ∧ Vals w' g (2 * n) (swp X i j) ∧ w.grownBy w' (some g) := by
  obtain ⟨I2, I3, oi, oi', wi, wi3, bi, bi', bi3, bi3', ti, ti3, eoi, eoi'⟩ := idx i n hi hn
  obtain ⟨J2, J3, oj, oj', wj, wj3, bj, bj', bj3, bj3', tj, tj3, eoj, eoj'⟩ := idx j n hj hn
  have hf := hv.free
  have c0 := hv.c0 (2 * i) (by omega)
  have c1 := hv.c1 (2 * i) (by omega)
  have c2 := hv.c2 (2 * i) (by omega)
  have e0 := hv.c0 (2 * j) (by omega)
  have e1 := hv.c1 (2 * j) (by omega)
  have e2 := hv.c2 (2 * j) (by omega)
  rw [← eoi] at c0 c1 c2
  rw [← eoj] at e0 e1 e2
  have n1 : ¬ oi = oj := by omega
  have n2 : ¬ oi + 1 = oj := by omega
  have n3 : ¬ oi + 2 = oj := by omega
  have n4 : ¬ oi = oj + 1 := by omega
  have n5 : ¬ oi = oj + 2 := by omega
  have EI : Hid (oi = 3 * (2 * i)) := eoi
  have EJ : Hid (oj = 3 * (2 * j)) := eoj
  have EI' : Hid (oi' = 3 * (2 * i + 1)) := eoi'
  have EJ' : Hid (oj' = 3 * (2 * j + 1)) := eoj'
  clear eoi eoj eoi' eoj'
  go_enter Try.func27, Try.ntmps27
  go_wp2
  go_region
  all_goals (try go_wp2)
  generalize hW : World.drew _ = W1
  have hV1 : Vals W1 g (2 * n) (upd (upd X (2 * i) (X (2 * j))) (2 * j) (X (2 * i))) := by
    rw [← hW]
    have h := (hv.put (2 * i) (by omega) (X (2 * j))).put (2 * j) (by omega) (X (2 * i))
    rw [← EI.out, ← EJ.out] at h
    exact h.drew
  have hG1 : w.grownBy W1 (some g) := by
    rw [← hW]
    exact grown_drew (grown_trans (grown_put w g oi (X (2 * j))) (grown_put _ g oj (X (2 * i))))
  clear hW c0 c1 c2 e0 e1 e2 n1 n2 n3 n4 n5 hf hc
  have hf := hV1.free
  have c0 := hV1.c0 (2 * i + 1) (by omega)
  have c1 := hV1.c1 (2 * i + 1) (by omega)
  have c2 := hV1.c2 (2 * i + 1) (by omega)
  have e0 := hV1.c0 (2 * j + 1) (by omega)
  have e1 := hV1.c1 (2 * j + 1) (by omega)
  have e2 := hV1.c2 (2 * j + 1) (by omega)
  rw [← EI'.out] at c0 c1 c2
  rw [← EJ'.out] at e0 e1 e2
  have n1 : ¬ oi' = oj' := by have := EI'.out; have := EJ'.out; omega
  have n2 : ¬ oi' + 1 = oj' := by have := EI'.out; have := EJ'.out; omega
  have n3 : ¬ oi' + 2 = oj' := by have := EI'.out; have := EJ'.out; omega
  have n4 : ¬ oi' = oj' + 1 := by have := EI'.out; have := EJ'.out; omega
  have n5 : ¬ oi' = oj' + 2 := by have := EI'.out; have := EJ'.out; omega
  generalize hA : upd (upd X (2 * i) (X (2 * j))) (2 * j) (X (2 * i)) = X1 at hV1 c0 e0
  have HA : Hid (upd (upd X (2 * i) (X (2 * j))) (2 * j) (X (2 * i)) = X1) := hA
  clear hA
  go_region
  all_goals (try go_wp2)
  go_end0
  refine ⟨rfl, ?_, ?_⟩
  · have h := (hV1.put (2 * i + 1) (by omega) (X1 (2 * j + 1))).put (2 * j + 1) (by omega) (X1 (2 * i + 1))
    rw [← EI'.out, ← EJ'.out] at h
    refine h.drew.congr fun p hp => ?_
    rw [← HA.out]
    simp only [upd, swp]
    repeat' split
    all_goals first | rfl | omega | (congr 1; omega)
  · exact grown_trans hG1 (grown_drew (grown_trans (grown_put W1 g oi' (X1 (2 * j + 1))) (grown_put _ g oj' (X1 (2 * i + 1)))))

end Swap
end Go.Proofs.Qxb6001722a

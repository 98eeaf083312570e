/-
  A slice of bytes that the call itself makes: one more byte; what it holds.
-/
import Derived.Test.Qxb6000730aRows
import Derived.WalkKit
import Derived.ProofKit
import Derived.OpenShut
import Derived.Handy
import Derived.Maps.AppendAt
namespace Go.Proofs.Qxb6000730a
open Go.ChangeShapes Go.WideShapes Go.ChangeAt Go.RowKit
namespace Bytes
set_option linter.unusedVariables false

/-- The slice v is the call's own (its block from B on) and holds the bytes ds. -/
def Own (B : Nat) (v : Value) (ds : List Int) (w : World) : Prop := w.ownsRow B 5 1 v ds.length (ds.map (Value.int .u8))

theorem info5 : (Try.prog.info? 5).map (fun i => (i.zero, i.size, i.bytes)) = some (some (.int .u8 0), 1, 1) := by kernel_rfl

/-- Append ONE byte, which the walk has just laid in a block of its own. -/
theorem push {ops : Array Oper} {rest : List Oper} {o : Oper} {a : Act} {Q : Exit → Act → World → Prop} (w0 : World) (hgd : o.guard = none) (s x : Operand)
    (ho : o.op = .call { callee := .builtin .append, args := #[s, x], argTypes := #[35, 35] }) (B : Nat) (v : Value) (ds : List Int) (c : Int) (hs : a.eval s = v)
    (hx : a.eval x = .slice (some ⟨w0.heap.size, 0, none⟩) 1 1) (hown : Own B v ds w0) (hlen : ds.length ≤ 1000000000) (hB : B ≤ w0.heap.size)
    (h : ∀ v' w', Own B v' (ds ++ [c]) w' → (w0.alloc (.cells #[.int .u8 c] 5)).grownBy w' v.ownBlock → (v'.ownBlock = v.ownBlock ∨ v'.ownBlock = some (w0.heap.size + 1)) → wpList Try.prog ops Q rest (a.put o.dst v') w') :
    wpList Try.prog ops Q (o :: rest) a (w0.alloc (.cells #[.int .u8 c] 5)) := by
  obtain ⟨i0, hi, hz0, hz1, hz2⟩ := info_parts info5
  refine wpList_append_own_at (P := Try.prog) (w0.alloc (.cells #[.int .u8 c] 5)) hgd s x 35 ho B 5 i0 (.int .u8 0) 1 1 Try.underlying35 hi hz0 hz1 hz2 rfl (by decide) v ds.length (ds.map (Value.int .u8)) hs (World.ownsRow.alloc hown _) ⟨w0.heap.size, 0, none⟩ 1 1 [.int .u8 c] hx rfl (cell_one_new _ _ _) ?_ ?_ ?_ ?_ ?_
  · intro u hu; simp at hu; subst hu; rfl
  · unfold maxLen; omega
  · omega
  · simp; omega
  · intro v' w' h1 h2 _ h4
    refine h v' w' ?_ h2 (by simpa using h4)
    unfold Own
    simpa using h1

/-- Append all the bytes of another slice of the call's own (not an empty one). -/
theorem pushAll {ops : Array Oper} {rest : List Oper} {o : Oper} {a : Act} {Q : Exit → Act → World → Prop} (w0 : World) (hgd : o.guard = none) (s x : Operand)
    (ho : o.op = .call { callee := .builtin .append, args := #[s, x], argTypes := #[35, 35] }) (B C : Nat) (v u : Value) (ds es : List Int) (hs : a.eval s = v)
    (hx : a.eval x = u) (hown : Own B v ds w0) (hsrc : Own C u es w0) (hes : es ≠ []) (hlen : ds.length ≤ 1000000000) (hlen2 : es.length ≤ 1000000000) (hB : B ≤ w0.heap.size)
    (h : ∀ v' w', Own B v' (ds ++ es) w' → w0.grownBy w' v.ownBlock → (v'.ownBlock = v.ownBlock ∨ v'.ownBlock = some w0.heap.size) → wpList Try.prog ops Q rest (a.put o.dst v') w') :
    wpList Try.prog ops Q (o :: rest) a w0 := by
  obtain ⟨i0, hi, hz0, hz1, hz2⟩ := info_parts info5
  rcases hsrc.2 with ⟨_, h0⟩ | ⟨g, cap, cur, hu, hg, hgg, hnc, hcm, hcs, htake⟩
  · exact absurd (List.eq_nil_of_length_eq_zero h0) hes
  refine wpList_append_own_at (P := Try.prog) w0 hgd s x 35 ho B 5 i0 (.int .u8 0) 1 1 Try.underlying35 hi hz0 hz1 hz2 rfl (by decide) v ds.length (ds.map (Value.int .u8)) hs hown ⟨g, 0, none⟩ es.length cap (es.map (Value.int .u8)) (hx.trans hu) (by simp) ?_ ?_ ?_ ?_ ?_ ?_
  · exact World.ownsRow.cells hsrc (by rw [hu]; rfl)
  · intro u hu; simp at hu; obtain ⟨c, _, rfl⟩ := hu; rfl
  · unfold maxLen; omega
  · omega
  · omega
  · intro v' w' h1 h2 _ h4
    refine h v' w' ?_ h2 h4
    unfold Own
    simpa using h1

/-- What is known of such a slice: where it lies, and its cells. -/
theorem Own.spot {B : Nat} {v : Value} {ds : List Int} {w : World} (h : Own B v ds w) (hne : ds ≠ []) :
    ∃ g cap, v = .slice (some ⟨g, 0, none⟩) ds.length cap ∧ B ≤ g ∧ g < w.heap.size ∧ ∀ j (hj : j < ds.length), w.cell? ⟨g, j, none⟩ = some (.int .u8 ds[j]) := by
  rcases h.2 with ⟨_, h0⟩ | ⟨g, cap, cur, hu, hg, hgg, hnc, hcm, hcs, htake⟩
  · exact absurd (List.eq_nil_of_length_eq_zero h0) hne
  refine ⟨g, cap, hu, hg, (Array.getElem?_eq_some_iff.1 hgg).1, fun j hj => ?_⟩
  have hc := World.ownsRow.cells h (g := g) (by rw [hu]; rfl) j (.int .u8 ds[j]) (by simp [hj])
  have hadd : (⟨g, 0, none⟩ : Addr).add j = ⟨g, j, none⟩ := by unfold Addr.add; split <;> simp_all
  rw [hadd] at hc
  exact hc

theorem Own.kept {B : Nat} {v : Value} {ds : List Int} {w w' : World} {row : Option Nat} (h : Own B v ds w) (hg : w.grownBy w' row) (hne : v.ownBlock ≠ row) : Own B v ds w' :=
  World.ownsRow.kept h hg (Or.inr hne)
theorem Own.alloc {B : Nat} {v : Value} {ds : List Int} {w : World} (h : Own B v ds w) (o : Obj) : Own B v ds (w.alloc o) := World.ownsRow.alloc h o
theorem Own.lt {B : Nat} {v : Value} {ds : List Int} {w : World} (h : Own B v ds w) : ∀ k, v.ownBlock = some k → B ≤ k ∧ k < w.heap.size := World.ownsRow.lt h
theorem Own.nil (B : Nat) (w : World) : Own B (.slice none 0 0) [] w := World.ownsRow_nil _ _ _ _
/-- Below a world in which it lies, it lies on. -/
theorem Own.below {B : Nat} {v : Value} {ds : List Int} {w w' : World} (h : Own B v ds w) (hb : Below w.heap.size w w') : Own B v ds w' := by
  refine ⟨h.1, ?_⟩
  rcases h.2 with hn | ⟨g, cap, cur, hv, hg, hgg, rest⟩
  · exact .inl hn
  · exact .inr ⟨g, cap, cur, hv, hg, (hb.block g (Array.getElem?_eq_some_iff.1 hgg).1).trans hgg, rest⟩
/-- A slice literal: n bytes in a new block. -/
theorem Own.lit (B : Nat) (w : World) (ds : List Int) (n : Nat) (hn : ds.length = n) (hB : B ≤ w.heap.size) (hl : n ≤ 1000000000) : Own B (.slice (some ⟨w.heap.size, 0, none⟩) n n) ds (w.alloc (.cells (ds.map (Value.int .u8)).toArray 5)) := by
  subst hn
  exact ⟨by simp, .inr ⟨w.heap.size, ds.length, _, rfl, hB, heap_alloc_new w _, Nat.le_refl _, by unfold maxLen; omega, by simp, by simp [List.take_of_length_le]⟩⟩

end Bytes
end Go.Proofs.Qxb6000730a

/-
  The headers law: its relations.
-/
import Derived.Test.Qxb6001722aHdrC
namespace Go.Proofs.Qxb6001722a
open Go.ChangeShapes Go.WideShapes Go.ChangeAt Go.RowKit
namespace Hdr
open Swap (Arg num Row Boolish boolish grown_alloc size39 mk3 cell_heap free_heap updv wp_make info39 set_some other)
set_option linter.unusedVariables false

theorem itoa' (k j : Nat) (w : World) (hz : k * 9 + j < 100000) : Calls Try.prog 14 #[.int .i64 ((k : Int) * 9 + (j : Int))] w fun e w' => e = .returned (.string (Itoa.text (k * 9 + j))) ∧ Below w.heap.size w w' := by
  have e : (k : Int) * 9 + (j : Int) = ((k * 9 + j : Nat) : Int) := by omega
  rw [e]
  exact Itoa.itoa (k * 9 + j) w hz

section
variable (w : World) {ops : Array Oper} {rest : List Oper} {o : Oper} {a : Act} {Q : Exit → Act → World → Prop}
theorem info36 : (Try.prog.info? 36).map (fun i => (i.zero, i.size, i.bytes)) = some (some (.pointer none), 1, 8) := by kernel_rfl
theorem mk34 (hg : o.guard = none) (l c : Operand) (hop : o.op = Op.makeSlice 34 l c) (kl kc : IntKind) (L C : Int) (n : Nat) (hl : a.eval l = .int kl L) (hc : a.eval c = .int kc C) (hL : L = (n : Int)) (hC : C = (n : Int)) (hn : n ≤ 4096)
    (hK : ∀ w' cur, Hid (w'.heap[w.heap.size]? = some (.cells cur 36 (0, 0))) → Hid (cur.size = n * 1) → Below w.heap.size w w' → w.heap.size < w'.heap.size → wpList Try.prog ops Q rest (a.put o.dst (.slice (some ⟨w.heap.size, 0, none⟩) n n)) w') :
    wpList Try.prog ops Q (o :: rest) a w := by
  obtain ⟨i, h1, h2, h3, h4⟩ := info_parts info36
  exact wp_make w hg l c 34 hop 36 i _ 1 Try.underlying34 h1 h2 h3 kl kc L C n hl hc hL hC (by rw [h4]; omega) (by unfold maxLen; omega) hK
theorem mk31f (hg : o.guard = none) (l c : Operand) (hop : o.op = Op.makeSlice 31 l c) (kl kc : IntKind) (L C : Int) (n : Nat) (hl : a.eval l = .int kl L) (hc : a.eval c = .int kc C) (hL : L = (n : Int)) (hC : C = (n : Int)) (hn : n ≤ 4096)
    (hK : ∀ w' cur, Hid (w'.heap[w.heap.size]? = some (.cells cur 35 (0, 0))) → Hid (cur.size = n * 1) → Below w.heap.size w w' → w.heap.size < w'.heap.size → wpList Try.prog ops Q rest (a.put o.dst (.slice (some ⟨w.heap.size, 0, none⟩) n n)) w') :
    wpList Try.prog ops Q (o :: rest) a w := by
  obtain ⟨i, h1, h2, h3, h4⟩ := info_parts info35
  exact wp_make w hg l c 31 hop 35 i _ 1 Try.underlying31 h1 h2 h3 kl kc L C n hl hc hL hC (by rw [h4]; omega) (by unfold maxLen; omega) hK
end

/-- How many Values header i has. -/
def cnt (Z : Nat → Int) (i : Nat) : Nat := ((Z i).tmod 9).natAbs
theorem cnt_lt (Z : Nat → Int) (i : Nat) : cnt Z i ≤ 8 := by
  unfold cnt
  have := Int.natAbs_tmod (Z i) 9
  rw [this]
  have := Nat.mod_lt (Z i).natAbs (show 0 < 9 by omega)
  simp
  omega

/-- Block b holds the first n texts of header i. -/
def Texts (w : World) (b n i : Nat) : Prop := ∀ j, j < n → w.cell? ⟨b, 3 * j, none⟩ = some (.string (Itoa.text (i * 9 + j)))
theorem Texts.block {w w' : World} {b n i : Nat} (h : Texts w b n i) (e : w'.heap[b]? = w.heap[b]?) : Texts w' b n i := fun j hj => (World.cell?_of_block (a := ⟨b, 3 * j, none⟩) e).trans (h j hj)

/-- The Values of header i are being laid in block b; all below b is as it was. -/
structure Lay (W : World) (b n i j : Nat) (w : World) : Prop where
  free : ∀ o, w.frozen? ⟨b, o, none⟩ = false
  some_ : ∀ o, o < 3 * n → ∃ v, w.cell? ⟨b, o, none⟩ = some v
  texts : Texts w b j i
  bel : Below b W w
  lt : b < w.heap.size

theorem Lay.start {W w : World} {b n i : Nat} {A : Array Value} {t : TypeId} (h : w.heap[b]? = some (.cells A t (0, 0))) (hA : A.size = n * 3) (hb : Below b W w) : Lay W b n i 0 w :=
  ⟨fun o => free_heap h, fun o ho => ⟨_, by rw [cell_heap h]; exact Array.getElem?_eq_getElem (by omega)⟩, fun j hj => by omega, hb, (Array.getElem?_eq_some_iff.1 h).1⟩
theorem Lay.below {W w w' : World} {b n i j : Nat} (h : Lay W b n i j w) (hb : Below w.heap.size w w') : Lay W b n i j w' := by
  have e := hb.block b h.lt
  exact ⟨fun o => (World.frozen?_of_block (a := ⟨b, o, none⟩) e).trans (h.free o), fun o ho => by rw [World.cell?_of_block (a := ⟨b, o, none⟩) e]; exact h.some_ o ho, h.texts.block e, h.bel.trans (hb.mono (Nat.le_of_lt h.lt)), Nat.lt_of_lt_of_le h.lt hb.size⟩
theorem Lay.grown {W w w' : World} {b n i j : Nat} (h : Lay W b n i j w) (hb : w.grownBy w' none) : Lay W b n i j w' :=
  h.below ((Below.refl _ _).grown hb (Nat.le_refl _) (fun k hk => by cases hk))
theorem Lay.put {W w : World} {b n i j : Nat} (h : Lay W b n i j w) (hj : j < n) (x y : Value) :
    Lay W b n i (j + 1) (((w.setCell ⟨b, 3 * j, none⟩ (.string (Itoa.text (i * 9 + j)))).setCell ⟨b, 3 * j + 1, none⟩ x).setCell ⟨b, 3 * j + 2, none⟩ y) := by
  refine ⟨fun o => by simpa using h.free o, set_some (set_some (set_some h.some_ _ _) _ _) _ _, fun q hq => ?_, ((h.bel.setCell (p := ⟨b, 3 * j, none⟩) (Nat.le_refl _) _).setCell (p := ⟨b, 3 * j + 1, none⟩) (Nat.le_refl _) _).setCell (p := ⟨b, 3 * j + 2, none⟩) (Nat.le_refl _) _, by simpa using h.lt⟩
  rw [other (by omega), other (by omega)]
  by_cases e : q = j
  · subst e
    obtain ⟨v, hv⟩ := h.some_ (3 * q) (by omega)
    exact World.cell?_setCell_same _ _ _ hv
  · rw [other (by omega)]; exact h.texts q (by omega)

/-- One header that was laid. -/
structure Entry (hb gp gl : Nat) (hv : Value) (w : World) (n i : Nat) (pv lv : Value) (c o b : Nat) : Prop where
  pv : pv = .pointer (some ⟨c, o, none⟩)
  lv : lv = .slice (some ⟨b, 0, none⟩) n n
  cell : w.cell? ⟨c, o, none⟩ = some (.slice (some ⟨b, 0, none⟩) n n)
  live : Live hb hv w c o
  cp : c ≠ gp
  cl : c ≠ gl
  texts : Texts w b n i
  bl : b < w.heap.size
  bh : b ≠ hb
  bp : b ≠ gp
  blst : b ≠ gl
  bc : ¬ Cur hv b
  plain : Plain w c

/-- The first k headers are laid. -/
structure Inv (W : World) (hb gp gl N : Nat) (Z : Nat → Int) (k : Nat) (hv : Value) (PV LV : Nat → Value) (w : World) : Prop where
  box : Box hb hv w
  rp : Row w gp N PV
  rl : Row w gl N LV
  pl : gp < w.heap.size
  ll : gl < w.heap.size
  ph : gp ≠ hb
  lh : gl ≠ hb
  plne : gp ≠ gl
  pc : ¬ Cur hv gp
  lc : ¬ Cur hv gl
  wc : ∀ q, q < W.heap.size → ¬ Cur hv q
  wh : W.heap.size ≤ hb
  wp : W.heap.size ≤ gp
  wl : W.heap.size ≤ gl
  none_ : ∀ i, i < k → cnt Z i = 0 → PV i = .pointer none
  some_ : ∀ i, i < k → 0 < cnt Z i → ∃ c o b, Entry hb gp gl hv w (cnt Z i) i (PV i) (LV i) c o b
  apart : ∀ i j, i < j → j < k → 0 < cnt Z j → PV i ≠ PV j
  bel : Below W.heap.size W w

end Hdr
end Go.Proofs.Qxb6001722a

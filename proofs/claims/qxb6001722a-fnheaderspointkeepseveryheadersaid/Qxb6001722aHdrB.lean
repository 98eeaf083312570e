/-
  (*headers).point: the header is laid in the current chunk, or in a new one; what was laid before stays where it is.
-/
import Derived.Test.Qxb6001722aHdrA
import Derived.RegionTactic
import Derived.BigRegion
namespace Go.Proofs.Qxb6001722a
open Go.ChangeShapes Go.WideShapes Go.ChangeAt Go.RowKit
namespace Hdr
open Swap (Arg num Row Boolish boolish grown_alloc size39 mk3 cell_heap free_heap)
set_option linter.unusedVariables false

theorem info35 : (Try.prog.info? 35).map (fun i => (i.zero, i.size, i.bytes)) = some (some (.slice none 0 0), 1, 24) := by kernel_rfl

section
variable (w : World) {ops : Array Oper} {rest : List Oper} {o : Oper} {a : Act} {Q : Exit → Act → World → Prop}

/-- 'make([][]Value, 0, n)'. -/
theorem mk31 (hg : o.guard = none) (l c : Operand) (hop : o.op = Op.makeSlice 31 l c) (kl kc : IntKind) (C : Int) (n : Nat) (hl : a.eval l = .int kl 0) (hc : a.eval c = .int kc C) (hC : C = (n : Int)) (hn : n ≤ 4096)
    (hK : ∀ w' cur, Hid (w'.heap[w.heap.size]? = some (.cells cur 35 (0, 0))) → Hid (cur.size = n) → w.grownBy w' none → w.heap.size < w'.heap.size → wpList Try.prog ops Q rest (a.put o.dst (.slice (some ⟨w.heap.size, 0, none⟩) 0 n)) w') :
    wpList Try.prog ops Q (o :: rest) a w := by
  obtain ⟨i, h1, h2, h3, h4⟩ := info_parts info35
  refine wpList_make_own w hg l c 31 hop w.heap.size 35 i _ 1 Try.underlying31 h1 h2 h3 kl kc C n hl hc hC (by rw [h4]; omega) (by unfold maxLen; omega) (Nat.le_refl _) ?_
  intro w' hown hgrow
  rcases hown.2 with ⟨h, _⟩ | ⟨g, cap, cur, hv, hb, hg', hn, hcap, hs, _⟩
  · cases h
  · have hv' : w.heap.size = g ∧ n = cap := by
      simp only [Value.slice.injEq, Option.some.injEq, Addr.mk.injEq] at hv
      exact ⟨hv.1.1, hv.2.2⟩
    obtain ⟨rfl, rfl⟩ := hv'
    exact hK w' cur hg' (show cur.size = n by simpa using hs) hgrow (Array.getElem?_eq_some_iff.1 hg').1
end

/-- A block of plain cells, nothing of it frozen. -/
def Plain (w : World) (g : Nat) : Prop := ∃ A t, w.heap[g]? = some (.cells A t (0, 0))
theorem Plain.block {w w' : World} {g : Nat} (h : Plain w g) (e : w'.heap[g]? = w.heap[g]?) : Plain w' g := by
  obtain ⟨A, t, h⟩ := h
  exact ⟨A, t, e.trans h⟩
theorem Plain.setCell {w : World} {g : Nat} (h : Plain w g) (b o : Nat) (v : Value) : Plain (w.setCell ⟨b, o, none⟩ v) g := by
  by_cases e : g = b
  · subst e
    obtain ⟨A, t, h⟩ := h
    exact ⟨_, t, by simp only [World.setCell, Array.getElem?_modify, if_true, h]; rfl⟩
  · exact h.block (Below.heap_setCell _ _ _ _ e)

/-- A chunk of headers. -/
structure Chunk (w : World) (g cap : Nat) : Prop where
  plain : Plain w g
  free : ∀ o, w.frozen? ⟨g, o, none⟩ = false
  some_ : ∀ o, o < cap → ∃ v, w.cell? ⟨g, o, none⟩ = some v

theorem Chunk.of_heap {w : World} {g n : Nat} {A : Array Value} {t : TypeId} (h : w.heap[g]? = some (.cells A t (0, 0))) (hA : A.size = n) : Chunk w g n :=
  ⟨⟨A, t, h⟩, fun o => free_heap h, fun o ho => ⟨_, by rw [cell_heap h]; exact Array.getElem?_eq_getElem (by omega)⟩⟩

/-- The world behind the laying of one header. -/
def after (B : World) (hb g o cap : Nat) (vs : Value) : World := ((B.setCell ⟨g, o, none⟩ vs).setCell ⟨hb, 0, none⟩ (.slice (some ⟨g, 0, none⟩) (o + 1) cap)).alloc (.cells #[vs] 35)

/-- It answers the place in the chunk at hand. -/
def FitsPost (hb g len cap : Nat) (vs : Value) (w : World) (e : Ending) (w' : World) : Prop := e = .returned (.pointer (some ⟨g, len, none⟩)) ∧ w' = (after w hb g len cap vs).drew.drew
/-- It answers the first place of a new chunk. -/
def FreshPost (hb : Nat) (vs : Value) (w : World) (e : Ending) (w' : World) : Prop := e = .returned (.pointer (some ⟨w.heap.size, 0, none⟩)) ∧
  ∃ (w1 : World) (C : Nat) (x : Value), Chunk w1 w.heap.size C ∧ w.grownBy w1 none ∧ w.heap.size < w1.heap.size ∧ 4 ≤ C ∧ C ≤ 256 ∧ w' = (after (w1.setCell ⟨hb, 0, none⟩ x) hb w.heap.size 0 C vs).drew

set_option maxRecDepth 100000 in
set_option maxHeartbeats 1600000 in
theorem point_fits (hb g len cap : Nat) (b n : Nat) (w : World) (hn : 0 < n) (hn9 : n ≤ 9) (hlen : len < cap) (hcap : cap ≤ 256) (hf : ∀ o, w.frozen? ⟨hb, o, none⟩ = false)
    (hc : w.cell? ⟨hb, 0, none⟩ = some (.slice (some ⟨g, 0, none⟩) len cap)) (hch : Chunk w g cap) (hbg : ¬ hb = g) (hgl : g < w.heap.size) (hbl : hb < w.heap.size) :
    Calls Try.prog 26 #[.pointer (some ⟨hb, 0, none⟩), .slice (some ⟨b, 0, none⟩) n n] w fun e w' => FitsPost hb g len cap (.slice (some ⟨b, 0, none⟩) n n) w e w' := by
  have hne : ((n : Int) == 0) = false := beq_eq_false_iff_ne.2 (by omega)
  have hnc : ((len : Int) == (cap : Int)) = false := beq_eq_false_iff_ne.2 (by omega)
  have hfg := hch.free
  obtain ⟨v0, hx⟩ := hch.some_ len hlen
  have hgb : ¬ g = hb := fun e => hbg e.symm
  have k1 : ¬ g = w.heap.size := by omega
  have k2 : ¬ w.heap.size = g := by omega
  have k3 : ¬ hb = w.heap.size := by omega
  have k4 : ¬ w.heap.size = hb := by omega
  go_enter Try.func26, Try.ntmps26
  go_wp2
  go_region
  all_goals (try go_wp2)
  go_region
  all_goals (try go_wp2)
  go_ret
  exact ⟨rfl, rfl⟩

set_option maxRecDepth 100000 in
set_option maxHeartbeats 1600000 in
theorem point_fresh (hb : Nat) (ao : Option Addr) (cap : Nat) (b n : Nat) (w : World) (hn : 0 < n) (hn9 : n ≤ 9) (hcap : cap ≤ 256) (hf : ∀ o, w.frozen? ⟨hb, o, none⟩ = false)
    (hc : w.cell? ⟨hb, 0, none⟩ = some (.slice ao cap cap)) (hbl : hb < w.heap.size) :
    Calls Try.prog 26 #[.pointer (some ⟨hb, 0, none⟩), .slice (some ⟨b, 0, none⟩) n n] w fun e w' => FreshPost hb (.slice (some ⟨b, 0, none⟩) n n) w e w' := by
  have hne : ((n : Int) == 0) = false := beq_eq_false_iff_ne.2 (by omega)
  have k3 : ¬ hb = w.heap.size := by omega
  have k4 : ¬ w.heap.size = hb := by omega
  obtain ⟨C, hC⟩ : ∃ C : Nat, C = min (max (2 * cap) 4) 256 := ⟨_, rfl⟩
  have hC4 : 4 ≤ C := by omega
  have hC5 : C ≤ 256 := by omega
  have HC : Hid (C = min (max (2 * cap) 4) 256) := hC
  clear hC
  have h3 : 2 * cap ≤ 4 ∨ (4 < 2 * cap ∧ 2 * cap ≤ 256) ∨ 256 < 2 * cap := by omega
  rcases h3 with h3 | ⟨h3, h4⟩ | h3
  all_goals (
    go_enter Try.func26, Try.ntmps26
    go_wp2
    go_region
    all_goals (try (go_wp2_with (first | (at_make; refine mk31 w.drew rfl _ (.tmp 27) rfl _ _ _ C rfl rfl (by have := HC.out; omega) (by omega) ?_; intro w1 cur1 hh1 hs1 hg1 hl0; have hl1 : w.heap.size < w1.heap.size := hl0; clear hl0; have hch : Chunk w1 w.heap.size C := Chunk.of_heap hh1.out hs1.out; have hfg := hch.free; obtain ⟨v0, hx⟩ := hch.some_ 0 (by omega); clear hh1 hs1; have hc1 := hg1.cell (a := ⟨hb, 0, none⟩) (v := .slice ao cap cap) hc (by simp); have hf1 : ∀ o, w1.frozen? ⟨hb, o, none⟩ = false := (fun o => (World.frozen?_of_block (a := ⟨hb, o, none⟩) (hg1.block hb hbl (by simp))).trans (hf o)); have k5 : ¬ hb = w1.heap.size := (fun e => Nat.lt_irrefl _ (Nat.lt_of_le_of_lt (Nat.le_of_eq e.symm) (Nat.lt_of_lt_of_le hbl hg1.size))); have k6 : ¬ w1.heap.size = hb := (fun e => k5 e.symm); have k7 : ¬ w.heap.size = w1.heap.size := (Nat.ne_of_lt hl1); have k8 : ¬ w1.heap.size = w.heap.size := (fun e => k7 e.symm); have k9 : hb < w1.heap.size := (Nat.lt_of_lt_of_le hbl hg1.size))))))
  all_goals go_region
  all_goals (try go_wp2)
  all_goals (go_ret; exact ⟨rfl, w1, C, _, hch, ⟨hg1.os, hg1.tape, hg1.output, hg1.size, hg1.block⟩, hl1, hC4, hC5, rfl⟩)

theorem after_block (B : World) (hb g o cap : Nat) (vs : Value) (k : Nat) (hk : k < B.heap.size) (h1 : k ≠ hb) (h2 : k ≠ g) : (after B hb g o cap vs).heap[k]? = B.heap[k]? := by
  unfold after
  rw [Below.heap_alloc _ _ _ (by simpa using hk), Below.heap_setCell _ _ _ _ h1, Below.heap_setCell _ _ _ _ h2]
theorem after_cell (B : World) (hb g o cap : Nat) (vs : Value) (c p : Nat) (hk : c < B.heap.size) (h1 : c ≠ hb) (h2 : ¬ (c = g ∧ p = o)) : (after B hb g o cap vs).cell? ⟨c, p, none⟩ = B.cell? ⟨c, p, none⟩ := by
  unfold after
  rw [World.cell?_of_block (w := (B.setCell ⟨g, o, none⟩ vs).setCell ⟨hb, 0, none⟩ (.slice (some ⟨g, 0, none⟩) (o + 1) cap)) (a := ⟨c, p, none⟩) (Below.heap_alloc _ _ _ (by simpa using hk)),
    World.cell?_setCell_other _ _ _ _ (fun e => h1 (by have := congrArg Addr.block e; simpa using this.symm)), World.cell?_setCell_other _ _ _ _ (fun e => h2 (by
      have e1 := congrArg Addr.block e
      have e2 := congrArg Addr.off e
      exact ⟨e1.symm, e2.symm⟩))]
theorem after_new (B : World) (hb g o cap : Nat) (vs : Value) (hg : g < B.heap.size) (hne : g ≠ hb) (hs : ∃ v, B.cell? ⟨g, o, none⟩ = some v) : (after B hb g o cap vs).cell? ⟨g, o, none⟩ = some vs := by
  obtain ⟨v, hv⟩ := hs
  unfold after
  rw [World.cell?_of_block (w := (B.setCell ⟨g, o, none⟩ vs).setCell ⟨hb, 0, none⟩ (.slice (some ⟨g, 0, none⟩) (o + 1) cap)) (a := ⟨g, o, none⟩) (Below.heap_alloc _ _ _ (by simpa using hg)),
    World.cell?_setCell_other _ _ _ _ (fun e => hne (by have := congrArg Addr.block e; simpa using this.symm)), World.cell?_setCell_same _ _ _ hv]
theorem after_head (B : World) (hb g o cap : Nat) (vs : Value) (hbl : hb < B.heap.size) (hs : ∃ v, B.cell? ⟨hb, 0, none⟩ = some v) (hne : g ≠ hb) : (after B hb g o cap vs).cell? ⟨hb, 0, none⟩ = some (.slice (some ⟨g, 0, none⟩) (o + 1) cap) := by
  obtain ⟨v, hv⟩ := hs
  have hv' : (B.setCell ⟨g, o, none⟩ vs).cell? ⟨hb, 0, none⟩ = some v := by
    rw [World.cell?_setCell_other _ _ _ _ (fun e => hne (congrArg Addr.block e))]; exact hv
  unfold after
  rw [World.cell?_of_block (w := (B.setCell ⟨g, o, none⟩ vs).setCell ⟨hb, 0, none⟩ (.slice (some ⟨g, 0, none⟩) (o + 1) cap)) (a := ⟨hb, 0, none⟩) (Below.heap_alloc _ _ _ (by simpa using hbl)), World.cell?_setCell_same _ _ _ hv']
theorem after_free (B : World) (hb g o cap : Nat) (vs : Value) (k q : Nat) (hk : k < B.heap.size) (hf : B.frozen? ⟨k, q, none⟩ = false) : (after B hb g o cap vs).frozen? ⟨k, q, none⟩ = false := by
  unfold after
  rw [World.frozen?_of_block (w := (B.setCell ⟨g, o, none⟩ vs).setCell ⟨hb, 0, none⟩ (.slice (some ⟨g, 0, none⟩) (o + 1) cap)) (a := ⟨k, q, none⟩) (Below.heap_alloc _ _ _ (by simpa using hk))]
  simpa using hf
theorem after_plain (B : World) (hb g o cap : Nat) (vs : Value) (c : Nat) (hc : c < B.heap.size) (h : Plain B c) : Plain (after B hb g o cap vs) c :=
  ((h.setCell g o vs).setCell hb 0 _).block (Below.heap_alloc _ _ _ (by simpa using hc))
theorem after_size (B : World) (hb g o cap : Nat) (vs : Value) : B.heap.size < (after B hb g o cap vs).heap.size := by simp [after]

end Hdr
end Go.Proofs.Qxb6001722a

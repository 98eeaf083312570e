/-
  ZZHeadersPointG1 by its contract: a place of its own; every header that was laid stays.
-/
import Derived.Test.Qxb6001722aHdrB
namespace Go.Proofs.Qxb6001722a
open Go.ChangeShapes Go.WideShapes Go.ChangeAt Go.RowKit
namespace Hdr
open Swap (Arg num Row Boolish boolish grown_alloc size39 mk3 cell_heap free_heap)
set_option linter.unusedVariables false

/-- hv leads to chunk k. -/
def Cur (hv : Value) (k : Nat) : Prop := ∃ len cap, hv = .slice (some ⟨k, 0, none⟩) len cap
/-- Place p of block c may hold a header that was laid. -/
def Live (hb : Nat) (hv : Value) (w : World) (c p : Nat) : Prop := c < w.heap.size ∧ c ≠ hb ∧ ∀ len cap, hv = .slice (some ⟨c, 0, none⟩) len cap → p < len

/-- The headers' block: nil, or a chunk with its length and room. -/
structure Box (hb : Nat) (hv : Value) (w : World) : Prop where
  free : ∀ o, w.frozen? ⟨hb, o, none⟩ = false
  cell : w.cell? ⟨hb, 0, none⟩ = some hv
  lt : hb < w.heap.size
  shape : hv = .slice none 0 0 ∨ ∃ g len cap, hv = .slice (some ⟨g, 0, none⟩) len cap ∧ len ≤ cap ∧ cap ≤ 256 ∧ Chunk w g cap ∧ g ≠ hb ∧ g < w.heap.size

/-- What a call of point does. -/
structure Laid1 (hb : Nat) (hv : Value) (w : World) (vs : Value) (g o : Nat) (hv' : Value) (w' : World) : Prop where
  box : Box hb hv' w'
  cell : w'.cell? ⟨g, o, none⟩ = some vs
  live : Live hb hv' w' g o
  old : ∀ c p, Live hb hv w c p → w'.cell? ⟨c, p, none⟩ = w.cell? ⟨c, p, none⟩ ∧ Live hb hv' w' c p ∧ ¬ (c = g ∧ p = o)
  blk : ∀ k, k < w.heap.size → k ≠ hb → ¬ Cur hv k → w'.heap[k]? = w.heap[k]? ∧ ¬ Cur hv' k ∧ k ≠ g
  plain : Plain w' g
  oldp : ∀ c, c < w.heap.size → Plain w c → Plain w' c
  size : w.heap.size ≤ w'.heap.size
  os : w'.os = w.os
  tape : w'.tape = w.tape
  output : w'.output = w.output
def Pointed (hb : Nat) (hv : Value) (w : World) (vs : Value) (e : Ending) (w' : World) : Prop := ∃ g o hv', e = .returned (.pointer (some ⟨g, o, none⟩)) ∧ Laid1 hb hv w vs g o hv' w'

theorem Laid1.drew {hb : Nat} {hv : Value} {w : World} {vs : Value} {g o : Nat} {hv' : Value} {w' : World} (h : Laid1 hb hv w vs g o hv' w') : Laid1 hb hv w vs g o hv' w'.drew :=
  ⟨⟨h.box.free, h.box.cell, h.box.lt, by
    rcases h.box.shape with h | ⟨g, len, cap, h1, h2, h3, h4, h5⟩
    · exact .inl h
    · exact .inr ⟨g, len, cap, h1, h2, h3, ⟨h4.plain, h4.free, h4.some_⟩, h5⟩⟩, h.cell, h.live, h.old, h.blk, h.plain, h.oldp, h.size, h.os, h.tape, h.output⟩

theorem laid_fits {hb g len cap : Nat} {vs : Value} {w : World} (hbx : Box hb (.slice (some ⟨g, 0, none⟩) len cap) w) (hlen : len < cap) (hcap : cap ≤ 256) (hch : Chunk w g cap) (hgb : g ≠ hb) (hgl : g < w.heap.size) :
    Laid1 hb (.slice (some ⟨g, 0, none⟩) len cap) w vs g len (.slice (some ⟨g, 0, none⟩) (len + 1) cap) (after w hb g len cap vs) := by
  have hs := after_size w hb g len cap vs
  refine ⟨⟨fun o => after_free _ _ _ _ _ _ _ _ hbx.lt (hbx.free o), after_head _ _ _ _ _ _ hbx.lt ⟨_, hbx.cell⟩ hgb, Nat.lt_trans hbx.lt hs, .inr ⟨g, len + 1, cap, rfl, by omega, hcap, ⟨after_plain _ _ _ _ _ _ _ hgl hch.plain, fun o => after_free _ _ _ _ _ _ _ _ hgl (hch.free o), fun o ho => ?_⟩, hgb, Nat.lt_trans hgl hs⟩⟩,
    after_new _ _ _ _ _ _ hgl hgb (hch.some_ len hlen), ⟨Nat.lt_trans hgl hs, hgb, fun l c e => by cases e; omega⟩, fun c p hl => ?_, fun k hk h1 h2 => ?_, after_plain _ _ _ _ _ _ _ hgl hch.plain, fun c hc hp => after_plain _ _ _ _ _ _ _ hc hp, Nat.le_of_lt hs, rfl, rfl, rfl⟩
  · by_cases e : o = len
    · subst e; exact ⟨_, after_new _ _ _ _ _ _ hgl hgb (hch.some_ o hlen)⟩
    · obtain ⟨v, hv⟩ := hch.some_ o ho
      exact ⟨v, (after_cell _ _ _ _ _ _ _ _ hgl hgb (fun h => e h.2)).trans hv⟩
  · obtain ⟨l1, l2, l3⟩ := hl
    have hne : ¬ (c = g ∧ p = len) := fun h => by
      obtain ⟨rfl, rfl⟩ := h
      exact Nat.lt_irrefl _ (l3 _ _ rfl)
    exact ⟨after_cell _ _ _ _ _ _ _ _ l1 l2 hne, ⟨Nat.lt_trans l1 hs, l2, fun l' c' e => by cases e; have := l3 _ _ rfl; omega⟩, hne⟩
  · have hkg : k ≠ g := fun e => h2 (by subst e; exact ⟨_, _, rfl⟩)
    exact ⟨after_block _ _ _ _ _ _ _ hk h1 hkg, fun h => by obtain ⟨l, c, e⟩ := h; cases e; exact hkg rfl, hkg⟩

theorem laid_fresh {hb C : Nat} {hv vs x : Value} {w w1 : World} (hbx : Box hb hv w) (hch : Chunk w1 w.heap.size C) (hg : w.grownBy w1 none) (hl : w.heap.size < w1.heap.size) (h4 : 4 ≤ C) (h5 : C ≤ 256) :
    Laid1 hb hv w vs w.heap.size 0 (.slice (some ⟨w.heap.size, 0, none⟩) (0 + 1) C) (after (w1.setCell ⟨hb, 0, none⟩ x) hb w.heap.size 0 C vs) := by
  have hlt := hbx.lt
  have hs := after_size (w1.setCell ⟨hb, 0, none⟩ x) hb w.heap.size 0 C vs
  have hz : (w1.setCell ⟨hb, 0, none⟩ x).heap.size = w1.heap.size := by simp
  rw [hz] at hs
  have hne : w.heap.size ≠ hb := by omega
  have hgl : w.heap.size < (w1.setCell ⟨hb, 0, none⟩ x).heap.size := by rw [hz]; exact hl
  have hbl : hb < (w1.setCell ⟨hb, 0, none⟩ x).heap.size := by rw [hz]; omega
  have oc : ∀ c p, c ≠ hb → (w1.setCell ⟨hb, 0, none⟩ x).cell? ⟨c, p, none⟩ = w1.cell? ⟨c, p, none⟩ := fun c p h =>
    World.cell?_of_block (a := ⟨c, p, none⟩) (Below.heap_setCell _ _ _ _ h)
  have hsome : ∀ o, o < C → ∃ v, (w1.setCell ⟨hb, 0, none⟩ x).cell? ⟨w.heap.size, o, none⟩ = some v := fun o ho => by rw [oc _ _ hne]; exact hch.some_ o ho
  have hcb : ∃ v, (w1.setCell ⟨hb, 0, none⟩ x).cell? ⟨hb, 0, none⟩ = some v := ⟨_, World.cell?_setCell_same _ _ _ (hg.cell hbx.cell (by simp))⟩
  have ff : ∀ k o, w1.frozen? ⟨k, o, none⟩ = false → (w1.setCell ⟨hb, 0, none⟩ x).frozen? ⟨k, o, none⟩ = false := fun k o h => by simpa using h
  refine ⟨⟨fun o => after_free _ _ _ _ _ _ _ _ hbl (ff _ _ ((World.frozen?_of_block (a := ⟨hb, o, none⟩) (hg.block hb hlt (by simp))).trans (hbx.free o))), after_head _ _ _ _ _ _ hbl hcb hne, by omega,
      .inr ⟨w.heap.size, 0 + 1, C, rfl, by omega, h5, ⟨after_plain _ _ _ _ _ _ _ hgl (hch.plain.setCell _ _ _), fun o => after_free _ _ _ _ _ _ _ _ hgl (ff _ _ (hch.free o)), fun o ho => ?_⟩, hne, by omega⟩⟩,
    after_new _ _ _ _ _ _ hgl hne (hsome 0 (by omega)), ⟨by omega, hne, fun l c e => by cases e; omega⟩, fun c p hlv => ?_, fun k hk h1 h2 => ?_, after_plain _ _ _ _ _ _ _ hgl (hch.plain.setCell _ _ _), fun c hc hp => after_plain _ _ _ _ _ _ _ (by rw [hz]; omega) ((hp.block (hg.block c hc (by simp))).setCell _ _ _), by omega, hg.os, hg.tape, hg.output⟩
  · by_cases e : o = 0
    · subst e; exact ⟨_, after_new _ _ _ _ _ _ hgl hne (hsome 0 (by omega))⟩
    · obtain ⟨v, hv⟩ := hsome o ho
      exact ⟨v, (after_cell _ _ _ _ _ _ _ _ hgl hne (fun h => e h.2)).trans hv⟩
  · obtain ⟨l1, l2, l3⟩ := hlv
    have hcg : c ≠ w.heap.size := by omega
    refine ⟨?_, ⟨by omega, l2, fun l' c' e => ?_⟩, fun h => hcg h.1⟩
    · rw [after_cell _ _ _ _ _ _ _ _ (by rw [hz]; omega) l2 (fun h => hcg h.1), oc _ _ l2]
      exact World.cell?_of_block (a := ⟨c, p, none⟩) (hg.block c l1 (by simp))
    · simp only [Value.slice.injEq, Option.some.injEq, Addr.mk.injEq] at e
      exact absurd e.1.1.symm hcg
  · have hkg : k ≠ w.heap.size := by omega
    refine ⟨?_, fun h => ?_, hkg⟩
    · rw [after_block _ _ _ _ _ _ _ (by rw [hz]; omega) h1 hkg, Below.heap_setCell _ _ _ _ h1, hg.block k hk (by simp)]
    · obtain ⟨l, c, e⟩ := h
      simp only [Value.slice.injEq, Option.some.injEq, Addr.mk.injEq] at e
      exact hkg e.1.1.symm

theorem point (hb : Nat) (hv : Value) (b n : Nat) (w : World) (hbx : Box hb hv w) (hn : 0 < n) (hn9 : n ≤ 9) : Calls Try.prog 26 #[.pointer (some ⟨hb, 0, none⟩), .slice (some ⟨b, 0, none⟩) n n] w fun e w' => Pointed hb hv w (.slice (some ⟨b, 0, none⟩) n n) e w' := by
  rcases hbx.shape with rfl | ⟨g, len, cap, rfl, h1, h2, h3, h4, h5⟩
  · refine (point_fresh hb none 0 b n w hn hn9 (by omega) hbx.free hbx.cell hbx.lt).mono ?_
    rintro e w' ⟨he, w1, C, x, c1, c2, c3, c4, c5, rfl⟩
    exact ⟨_, _, _, he, (laid_fresh hbx c1 c2 c3 c4 c5).drew⟩
  · by_cases hl : len < cap
    · refine (point_fits hb g len cap b n w hn hn9 hl h2 hbx.free hbx.cell h3 (fun e => h4 e.symm) h5 hbx.lt).mono ?_
      rintro e w' ⟨he, rfl⟩
      exact ⟨_, _, _, he, (laid_fits hbx hl h2 h3 h4 h5).drew.drew⟩
    · have hlc : len = cap := by omega
      subst hlc
      refine (point_fresh hb _ len b n w hn hn9 h2 hbx.free hbx.cell hbx.lt).mono ?_
      rintro e w' ⟨he, w1, C, x, c1, c2, c3, c4, c5, rfl⟩
      exact ⟨_, _, _, he, (laid_fresh hbx c1 c2 c3 c4 c5).drew⟩

set_option maxRecDepth 100000 in
theorem zzPoint (hb : Nat) (hv : Value) (b n : Nat) (w : World) (hbx : Box hb hv w) (hn : 0 < n) (hn9 : n ≤ 9) : Calls Try.prog 15 #[.pointer (some ⟨hb, 0, none⟩), .slice (some ⟨b, 0, none⟩) n n] w fun e w' => Pointed hb hv w (.slice (some ⟨b, 0, none⟩) n n) e w' := by
  go_enter Try.func15, Try.ntmps15
  go_wp2_with (first | (go_at_call 26; refine (point hb hv b n w hbx hn hn9).mono ?_; rintro e w' ⟨g, o, hv', rfl, hL⟩))
  go_ret
  exact ⟨g, o, hv', rfl, hL⟩

set_option maxRecDepth 100000 in
theorem point_none (hb b : Nat) (w : World) : Calls Try.prog 26 #[.pointer (some ⟨hb, 0, none⟩), .slice (some ⟨b, 0, none⟩) 0 0] w fun e w' => e = .returned (.pointer none) ∧ w' = w := by
  go_enter Try.func26, Try.ntmps26
  go_wp2
  go_ret
  exact ⟨rfl, rfl⟩
set_option maxRecDepth 100000 in
theorem zzPoint_none (hb b : Nat) (w : World) : Calls Try.prog 15 #[.pointer (some ⟨hb, 0, none⟩), .slice (some ⟨b, 0, none⟩) 0 0] w fun e w' => e = .returned (.pointer none) ∧ w' = w := by
  go_enter Try.func15, Try.ntmps15
  go_wp2_with (first | (go_at_call 26; refine (point_none hb b w).mono ?_; rintro e w' ⟨rfl, hw⟩; replace hw := hw.symm; subst hw))
  go_ret
  exact ⟨rfl, rfl⟩
end Hdr
end Go.Proofs.Qxb6001722a

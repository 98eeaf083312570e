/-
  The headers law: the relation's steps.
-/
import Derived.Test.Qxb6001722aHdrD
import Derived.LaidEql
namespace Go.Proofs.Qxb6001722a
open Go.ChangeShapes Go.WideShapes Go.ChangeAt Go.RowKit
namespace Hdr
open Swap (Arg num Row Boolish boolish grown_alloc size39 mk3 cell_heap free_heap updv wp_make info39 set_some other)
set_option linter.unusedVariables false

theorem Box.keep {hb : Nat} {hv : Value} {w w' : World} (h : Box hb hv w) (hs : w.heap.size ≤ w'.heap.size) (e : w'.heap[hb]? = w.heap[hb]?) (ec : ∀ q, q < w.heap.size → Cur hv q → w'.heap[q]? = w.heap[q]?) : Box hb hv w' := by
  refine ⟨fun o => (World.frozen?_of_block (a := ⟨hb, o, none⟩) e).trans (h.free o), (World.cell?_of_block (a := ⟨hb, 0, none⟩) e).trans h.cell, Nat.lt_of_lt_of_le h.lt hs, ?_⟩
  rcases h.shape with h | ⟨g, len, cap, h1, h2, h3, h4, h5, h6⟩
  · exact .inl h
  · have eg := ec g h6 ⟨len, cap, h1⟩
    exact .inr ⟨g, len, cap, h1, h2, h3, ⟨h4.plain.block eg, fun o => (World.frozen?_of_block (a := ⟨g, o, none⟩) eg).trans (h4.free o), fun o ho => by rw [World.cell?_of_block (a := ⟨g, o, none⟩) eg]; exact h4.some_ o ho⟩, h5, Nat.lt_of_lt_of_le h6 hs⟩
theorem Box.cur_lt {hb : Nat} {hv : Value} {w : World} (h : Box hb hv w) {q : Nat} (hq : Cur hv q) : q < w.heap.size := by
  obtain ⟨l, c, e⟩ := hq
  rcases h.shape with h | ⟨g, len, cap, h1, h2, h3, h4, h5, h6⟩
  · rw [h] at e; cases e
  · rw [h1] at e; cases e; exact h6

theorem Entry.keep {hb gp gl : Nat} {hv : Value} {w w' : World} {n i : Nat} {pv lv : Value} {c o b : Nat} (h : Entry hb gp gl hv w n i pv lv c o b) (hs : w.heap.size ≤ w'.heap.size) (hk : ∀ q, q < w.heap.size → q ≠ gp → q ≠ gl → w'.heap[q]? = w.heap[q]?) : Entry hb gp gl hv w' n i pv lv c o b := by
  have ec := hk c h.live.1 h.cp h.cl
  have eb := hk b h.bl h.bp h.blst
  exact ⟨h.pv, h.lv, (World.cell?_of_block (a := ⟨c, o, none⟩) ec).trans h.cell, ⟨Nat.lt_of_lt_of_le h.live.1 hs, h.live.2⟩, h.cp, h.cl, h.texts.block eb, Nat.lt_of_lt_of_le h.bl hs, h.bh, h.bp, h.blst, h.bc, h.plain.block ec⟩

theorem Inv.keep {W : World} {hb gp gl N : Nat} {Z : Nat → Int} {k : Nat} {hv : Value} {PV LV : Nat → Value} {w w' : World} (H : Inv W hb gp gl N Z k hv PV LV w) {PV' LV' : Nat → Value} (hs : w.heap.size ≤ w'.heap.size)
    (ho : w'.os = w.os) (ht : w'.tape = w.tape) (hu : w'.output = w.output) (hk : ∀ q, q < w.heap.size → q ≠ gp → q ≠ gl → w'.heap[q]? = w.heap[q]?) (rp : Row w' gp N PV') (rl : Row w' gl N LV')
    (ep : ∀ i, i < k → PV' i = PV i) (el : ∀ i, i < k → LV' i = LV i) : Inv W hb gp gl N Z k hv PV' LV' w' := by
  refine ⟨H.box.keep hs (hk hb H.box.lt (fun e => H.ph e.symm) (fun e => H.lh e.symm)) (fun q hq hc => hk q hq (fun e => H.pc (e ▸ hc)) (fun e => H.lc (e ▸ hc))), rp, rl, Nat.lt_of_lt_of_le H.pl hs, Nat.lt_of_lt_of_le H.ll hs, H.ph, H.lh, H.plne, H.pc, H.lc, H.wc, H.wh, H.wp, H.wl,
    fun i hi h0 => by rw [ep i hi]; exact H.none_ i hi h0, fun i hi h0 => ?_, fun i j hij hj h0 => by rw [ep i (by omega), ep j hj]; exact H.apart i j hij hj h0, H.bel.trans ⟨ho, ht, hu, hs, fun q hq => hk q (Nat.lt_of_lt_of_le hq H.bel.size) ?_ ?_⟩⟩
  · obtain ⟨c, o, b, h⟩ := H.some_ i hi h0
    rw [ep i hi, el i hi]
    exact ⟨c, o, b, h.keep hs hk⟩
  · have := H.wp; omega
  · have := H.wl; omega

theorem Inv.below {W : World} {hb gp gl N : Nat} {Z : Nat → Int} {k : Nat} {hv : Value} {PV LV : Nat → Value} {w w' : World} (H : Inv W hb gp gl N Z k hv PV LV w) (h : Below w.heap.size w w') : Inv W hb gp gl N Z k hv PV LV w' :=
  H.keep h.size h.os h.tape h.output (fun q hq _ _ => h.block q hq) (H.rp.block (h.block _ H.pl)) (H.rl.block (h.block _ H.ll)) (fun _ _ => rfl) (fun _ _ => rfl)

theorem Inv.skip {W : World} {hb gp gl N : Nat} {Z : Nat → Int} {k : Nat} {hv : Value} {PV LV : Nat → Value} {w : World} (H : Inv W hb gp gl N Z k hv PV LV w) (h0 : cnt Z k = 0) (hz : PV k = .pointer none) : Inv W hb gp gl N Z (k + 1) hv PV LV w := by
  refine { H with none_ := fun i hi hc => ?_, some_ := fun i hi hc => ?_, apart := fun i j hij hj hc => ?_ }
  · by_cases e : i = k
    · rw [e]; exact hz
    · exact H.none_ i (by omega) hc
  · by_cases e : i = k
    · rw [e] at hc; omega
    · exact H.some_ i (by omega) hc
  · by_cases e : j = k
    · rw [e] at hc; omega
    · exact H.apart i j hij (by omega) hc

/-- Behind the call of point. -/
theorem Inv.point {W : World} {hb gp gl N : Nat} {Z : Nat → Int} {k : Nat} {hv hv' : Value} {PV LV : Nat → Value} {u u2 : World} {vs : Value} {g o : Nat} (H : Inv W hb gp gl N Z k hv PV LV u) (L : Laid1 hb hv u vs g o hv' u2) :
    Inv W hb gp gl N Z k hv' PV LV u2 ∧ (∀ i, i < k → PV i ≠ .pointer (some ⟨g, o, none⟩)) ∧ g ≠ gp ∧ g ≠ gl := by
  have bp := L.blk gp H.pl H.ph H.pc
  have bl := L.blk gl H.ll H.lh H.lc
  have bw : ∀ q, q < W.heap.size → u2.heap[q]? = u.heap[q]? ∧ ¬ Cur hv' q ∧ q ≠ g := fun q hq => L.blk q (Nat.lt_of_lt_of_le hq H.bel.size) (by have := H.wh; omega) (H.wc q hq)
  refine ⟨⟨L.box, H.rp.block bp.1, H.rl.block bl.1, Nat.lt_of_lt_of_le H.pl L.size, Nat.lt_of_lt_of_le H.ll L.size, H.ph, H.lh, H.plne, bp.2.1, bl.2.1, fun q hq => (bw q hq).2.1, H.wh, H.wp, H.wl, H.none_, fun i hi h0 => ?_, H.apart,
    H.bel.trans ⟨L.os, L.tape, L.output, L.size, fun q hq => (bw q hq).1⟩⟩, fun i hi e => ?_, fun e => bp.2.2 e.symm, fun e => bl.2.2 e.symm⟩
  · obtain ⟨c, p, b, h⟩ := H.some_ i hi h0
    have ho := L.old c p h.live
    have hbk := L.blk b h.bl h.bh h.bc
    exact ⟨c, p, b, ⟨h.pv, h.lv, ho.1.trans h.cell, ho.2.1, h.cp, h.cl, h.texts.block hbk.1, Nat.lt_of_lt_of_le h.bl L.size, h.bh, h.bp, h.blst, hbk.2.1, L.oldp c h.live.1 h.plain⟩⟩
  · by_cases h0 : 0 < cnt Z i
    · obtain ⟨c, p, b, h⟩ := H.some_ i hi h0
      have ho := L.old c p h.live
      have e' := h.pv.symm.trans e
      cases e'
      exact ho.2.2 ⟨rfl, rfl⟩
    · have := H.none_ i hi (by omega)
      rw [this] at e
      cases e

/-- Behind the two stores. -/
theorem Inv.set {W : World} {hb gp gl N : Nat} {Z : Nat → Int} {k : Nat} {hv hv' : Value} {PV LV : Nat → Value} {u u2 : World} {g o b : Nat} (H : Inv W hb gp gl N Z k hv PV LV u) (L : Laid1 hb hv u (.slice (some ⟨b, 0, none⟩) (cnt Z k) (cnt Z k)) g o hv' u2) (hk : k < N) (hpos : 0 < cnt Z k)
    (ht : Texts u b (cnt Z k) k) (hbl : b < u.heap.size) (hbh : b ≠ hb) (hbp : b ≠ gp) (hbg : b ≠ gl) (hbc : ¬ Cur hv b) :
    Inv W hb gp gl N Z (k + 1) hv' (updv PV k (.pointer (some ⟨g, o, none⟩))) (updv LV k (.slice (some ⟨b, 0, none⟩) (cnt Z k) (cnt Z k)))
      ((u2.setCell ⟨gp, k, none⟩ (.pointer (some ⟨g, o, none⟩))).setCell ⟨gl, k, none⟩ (.slice (some ⟨b, 0, none⟩) (cnt Z k) (cnt Z k))) := by
  obtain ⟨H2, hap, hgp, hgl⟩ := H.point L
  have hkk : ∀ q, q < u2.heap.size → q ≠ gp → q ≠ gl → ((u2.setCell ⟨gp, k, none⟩ (.pointer (some ⟨g, o, none⟩))).setCell ⟨gl, k, none⟩ (.slice (some ⟨b, 0, none⟩) (cnt Z k) (cnt Z k))).heap[q]? = u2.heap[q]? := fun q _ h1 h2 => by
    rw [Below.heap_setCell _ _ _ _ h2, Below.heap_setCell _ _ _ _ h1]
  have hsz : u2.heap.size ≤ ((u2.setCell ⟨gp, k, none⟩ (.pointer (some ⟨g, o, none⟩))).setCell ⟨gl, k, none⟩ (.slice (some ⟨b, 0, none⟩) (cnt Z k) (cnt Z k))).heap.size := by simp
  have hbk := L.blk b hbl hbh hbc
  have H3 := H2.keep (w' := ((u2.setCell ⟨gp, k, none⟩ (.pointer (some ⟨g, o, none⟩))).setCell ⟨gl, k, none⟩ (.slice (some ⟨b, 0, none⟩) (cnt Z k) (cnt Z k))))
    (PV' := updv PV k (.pointer (some ⟨g, o, none⟩))) (LV' := updv LV k (.slice (some ⟨b, 0, none⟩) (cnt Z k) (cnt Z k))) hsz rfl rfl rfl hkk
    ((H2.rp.set k _).block (Below.heap_setCell _ _ _ _ H.plne)) ((H2.rl.block (Below.heap_setCell _ _ _ _ (fun e => H.plne e.symm))).set k _)
    (fun i hi => by unfold updv; rw [if_neg (by omega)]) (fun i hi => by unfold updv; rw [if_neg (by omega)])
  have hE : Entry hb gp gl hv' u2 (cnt Z k) k (updv PV k (.pointer (some ⟨g, o, none⟩)) k) (updv LV k (.slice (some ⟨b, 0, none⟩) (cnt Z k) (cnt Z k)) k) g o b :=
    ⟨by simp [updv], by simp [updv], L.cell, L.live, hgp, hgl, ht.block hbk.1, Nat.lt_of_lt_of_le hbl L.size, hbh, hbp, hbg, hbk.2.1, L.plain⟩
  refine { H3 with none_ := fun i hi hc => ?_, some_ := fun i hi hc => ?_, apart := fun i j hij hj hc => ?_ }
  · by_cases e : i = k
    · subst e; omega
    · exact H3.none_ i (by omega) hc
  · by_cases e : i = k
    · subst e; exact ⟨g, o, b, hE.keep hsz hkk⟩
    · exact H3.some_ i (by omega) hc
  · by_cases e : j = k
    · subst e
      unfold updv
      rw [if_neg (by omega), if_pos rfl]
      exact hap i hij
    · exact H3.apart i j hij (by omega) hc

theorem h36 : Try.prog.underlying 36 = some (.pointer 35) := by kernel_rfl
theorem h44 : Try.prog.underlying 44 = some (.pointer 39) := by kernel_rfl
theorem eqp_in (d : Nat) (W : World) {x y : Addr} {A B : Array Value} {t u : TypeId} (hne : x ≠ y) (hx : W.heap[x.block]? = some (.cells A t (0, 0))) (hy : W.heap[y.block]? = some (.cells B u (0, 0))) : (Op.equalIn (d + 1) 36 (.pointer (some x)) (.pointer (some y))).run Try.prog W = .ok false W := by
  obtain ⟨j, hj, _, hs, _⟩ := info_parts info35
  simp [Op.equalIn, run_underlying h36, typeInfo, sizeOf, hj, hs, run_sameAddr_other W hne hx hy]
theorem nep_in (d : Nat) (W : World) (x : Addr) : (Op.equalIn (d + 1) 44 (.pointer (some x)) (.pointer (some x))).run Try.prog W = .ok true W := by
  obtain ⟨j, hj, _, hs, _⟩ := info_parts info39
  simp [Op.equalIn, run_underlying h44, typeInfo, sizeOf, hj, hs, run_sameAddr_same W x]
theorem eqp (W : World) {x y : Addr} (hne : x ≠ y) (hx : Plain W x.block) (hy : Plain W y.block) : (binOp .eql 36 (.pointer (some x)) (.pointer (some y))).run Try.prog W = .ok (.bool false) W := by
  obtain ⟨A, t, hx⟩ := hx
  obtain ⟨B, u, hy⟩ := hy
  have h1 : (Op.equal 36 (.pointer (some x)) (.pointer (some y))).run Try.prog W = .ok false W := eqp_in 9999 W hne hx hy
  simp only [binOp]
  simp [h1]
theorem eqn_in (d : Nat) (W : World) (y : Addr) : (Op.equalIn (d + 1) 36 (.pointer none) (.pointer (some y))).run Try.prog W = .ok false W := by
  simp [Op.equalIn, run_underlying h36]
theorem eqn (W : World) (y : Addr) : (binOp .eql 36 (.pointer none) (.pointer (some y))).run Try.prog W = .ok (.bool false) W := by
  have h1 : (Op.equal 36 (.pointer none) (.pointer (some y))).run Try.prog W = .ok false W := eqn_in 9999 W y
  simp only [binOp]
  simp [h1]
theorem nep (W : World) (x : Addr) : (binOp .neq 44 (.pointer (some x)) (.pointer (some x))).run Try.prog W = .ok (.bool false) W := by
  have h1 : (Op.equal 44 (.pointer (some x)) (.pointer (some x))).run Try.prog W = .ok true W := nep_in 9999 W x
  simp only [binOp]
  simp [h1]

/-- The places from k on are nil as they were made. -/
def Nils (PV : Nat → Value) (k N : Nat) : Prop := ∀ i, k ≤ i → i < N → PV i = .pointer none
theorem Nils.next {PV : Nat → Value} {k N : Nat} (h : Nils PV k N) : Nils PV (k + 1) N := fun i hi hN => h i (by omega) hN
theorem Nils.set {PV : Nat → Value} {k N : Nat} (h : Nils PV k N) (v : Value) : Nils (updv PV k v) (k + 1) N := fun i hi hN => by
  unfold updv
  rw [if_neg (by omega)]
  exact h i (by omega) hN

theorem Inv.start {W w3 w4 : World} {N : Nat} (Z : Nat → Int) {LV : Nat → Value} (h3 : Below (W.heap.size + 1) (W.alloc (.cells #[.slice none 0 0] 33)) w3) (Rp : Row w3 (W.heap.size + 1) N (fun _ => .pointer none)) (hl3 : W.heap.size + 1 < w3.heap.size)
    (h4 : Below w3.heap.size w3 w4) (Rl : Row w4 w3.heap.size N LV) (hl4 : w3.heap.size < w4.heap.size) : Inv W W.heap.size (W.heap.size + 1) w3.heap.size N Z 0 (.slice none 0 0) (fun _ => .pointer none) LV w4 := by
  have nc : ∀ q, ¬ Cur (.slice none 0 0) q := fun q h => by obtain ⟨l, c, e⟩ := h; cases e
  have e : w4.heap[W.heap.size]? = some (.cells #[.slice none 0 0] 33 (0, 0)) := by
    rw [h4.block _ (by omega), h3.block _ (by omega)]
    exact heap_alloc_new W _
  have hB : Below W.heap.size W w4 := (((Below.refl _ _).alloc (Nat.le_refl _) _).trans (h3.mono (by omega))).trans (h4.mono (by omega))
  refine ⟨⟨fun o => free_heap e, by rw [cell_heap e]; rfl, by omega, .inl rfl⟩, Rp.block (h4.block _ hl3), Rl, by omega, hl4, by omega, by omega, by omega, nc _, nc _, fun q _ => nc q, Nat.le_refl _, by omega, by omega, fun i hi => by omega, fun i hi => by omega, fun i j hij hj => by omega, hB⟩

section
variable (w : World) {ops : Array Oper} {rest : List Oper} {o : Oper} {a : Act} {Q : Exit → Act → World → Prop}
theorem mk34z (hg : o.guard = none) (l c : Operand) (hop : o.op = Op.makeSlice 34 l c) (kl kc : IntKind) (L C : Int) (n : Nat) (hl : a.eval l = .int kl L) (hc : a.eval c = .int kc C) (hL : L = (n : Int)) (hC : C = (n : Int)) (hn : n ≤ 4096)
    (hK : ∀ w', Row w' w.heap.size n (fun _ => .pointer none) → Below w.heap.size w w' → w.heap.size < w'.heap.size → wpList Try.prog ops Q rest (a.put o.dst (.slice (some ⟨w.heap.size, 0, none⟩) n n)) w') :
    wpList Try.prog ops Q (o :: rest) a w := by
  obtain ⟨i, h1, h2, h3, h4⟩ := info_parts info36
  refine wpList_make_full w hg l c 34 hop w.heap.size 36 i _ 1 Try.underlying34 h1 h2 h3 kl kc L C n hl hc hL hC (by rw [h4]; omega) (by unfold maxLen; omega) (Nat.le_refl _) ?_
  intro w' hown hgrow
  rcases hown.2 with ⟨h, _⟩ | ⟨g, cap, cur, hv, hb, hg', hn, hcap, hs, hx⟩
  · cases h
  · have hv' : w.heap.size = g ∧ n = cap := by
      simp only [Value.slice.injEq, Option.some.injEq, Addr.mk.injEq] at hv
      exact ⟨hv.1.1, hv.2.2⟩
    obtain ⟨rfl, rfl⟩ := hv'
    have hcs : cur.toList = List.replicate n (.pointer none) := by
      have e : (Value.pointer none).cells = #[.pointer none] := rfl
      rw [e, toList_madeCells_one, Nat.mul_one] at hx
      rw [← hx, List.take_of_length_le (by simp; omega)]
    refine hK w' ⟨fun o => free_heap hg', fun p hp => ?_⟩ ((Below.refl _ _).grown hgrow (Nat.le_refl _) (fun k hk => by cases hk)) (Array.getElem?_eq_some_iff.1 hg').1
    rw [cell_heap hg', ← Array.getElem?_toList, hcs]
    simp [hp]
end

end Hdr
end Go.Proofs.Qxb6001722a

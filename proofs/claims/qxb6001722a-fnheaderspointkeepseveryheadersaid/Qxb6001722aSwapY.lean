/-
  The swap script: make and copy as the law uses them; the relations of its loops.
-/
import Derived.Test.Qxb6001722aSwapZ
import Derived.Deep.QuietTactic
import Derived.BigQuiet
namespace Go.Proofs.Qxb6001722a
open Go.ChangeShapes Go.WideShapes Go.ChangeAt Go.RowKit
namespace Swap
set_option linter.unusedVariables false

theorem info9 : (Try.prog.info? 9).map (fun i => (i.zero, i.size, i.bytes)) = some (some (.string ByteArray.empty), 1, 16) := by kernel_rfl
theorem info3 : (Try.prog.info? 3).map (fun i => (i.zero, i.size, i.bytes)) = some (some (.int .i64 0), 1, 8) := by kernel_rfl
theorem info39 : (Try.prog.info? 39).map (fun i => (i.zero, i.size, i.bytes)) = some (some (.agg #[.string ByteArray.empty, .pointer none, .int .u64 0]), 3, 32) := by kernel_rfl
theorem size9 : (Try.prog.info? 9).map (·.size) = some 1 := by kernel_rfl
theorem size3 : (Try.prog.info? 3).map (·.size) = some 1 := by kernel_rfl

section
variable (w : World) {ops : Array Oper} {rest : List Oper} {o : Oper} {a : Act} {Q : Exit → Act → World → Prop}

theorem mk9 (hg : o.guard = none) (l c : Operand) (hop : o.op = Op.makeSlice 46 l c) (kl kc : IntKind) (L C : Int) (n : Nat) (hl : a.eval l = .int kl L) (hc : a.eval c = .int kc C) (hL : L = (n : Int)) (hC : C = (n : Int)) (hn : n ≤ 4096)
    (hK : ∀ w' cur, Hid (w'.heap[w.heap.size]? = some (.cells cur 9 (0, 0))) → Hid (cur.size = n * 1) → Below w.heap.size w w' → w.heap.size < w'.heap.size → wpList Try.prog ops Q rest (a.put o.dst (.slice (some ⟨w.heap.size, 0, none⟩) n n)) w') :
    wpList Try.prog ops Q (o :: rest) a w := by
  obtain ⟨i, h1, h2, h3, h4⟩ := info_parts info9
  exact wp_make w hg l c 46 hop 9 i _ 1 Try.underlying46 h1 h2 h3 kl kc L C n hl hc hL hC (by rw [h4]; omega) (by unfold maxLen; omega) hK
theorem mk3 (hg : o.guard = none) (l c : Operand) (hop : o.op = Op.makeSlice 28 l c) (kl kc : IntKind) (L C : Int) (n : Nat) (hl : a.eval l = .int kl L) (hc : a.eval c = .int kc C) (hL : L = (n : Int)) (hC : C = (n : Int)) (hn : n ≤ 4096)
    (hK : ∀ w' cur, Hid (w'.heap[w.heap.size]? = some (.cells cur 3 (0, 0))) → Hid (cur.size = n * 1) → Below w.heap.size w w' → w.heap.size < w'.heap.size → wpList Try.prog ops Q rest (a.put o.dst (.slice (some ⟨w.heap.size, 0, none⟩) n n)) w') :
    wpList Try.prog ops Q (o :: rest) a w := by
  obtain ⟨i, h1, h2, h3, h4⟩ := info_parts info3
  exact wp_make w hg l c 28 hop 3 i _ 1 Try.underlying28 h1 h2 h3 kl kc L C n hl hc hL hC (by rw [h4]; omega) (by unfold maxLen; omega) hK
theorem mk39 (hg : o.guard = none) (l c : Operand) (hop : o.op = Op.makeSlice 35 l c) (kl kc : IntKind) (L C : Int) (n : Nat) (hl : a.eval l = .int kl L) (hc : a.eval c = .int kc C) (hL : L = (n : Int)) (hC : C = (n : Int)) (hn : n ≤ 4096)
    (hK : ∀ w' cur, Hid (w'.heap[w.heap.size]? = some (.cells cur 39 (0, 0))) → Hid (cur.size = n * 3) → Below w.heap.size w w' → w.heap.size < w'.heap.size → wpList Try.prog ops Q rest (a.put o.dst (.slice (some ⟨w.heap.size, 0, none⟩) n n)) w') :
    wpList Try.prog ops Q (o :: rest) a w := by
  obtain ⟨i, h1, h2, h3, h4⟩ := info_parts info39
  exact wp_make w hg l c 35 hop 39 i _ 3 Try.underlying35 h1 h2 h3 kl kc L C n hl hc hL hC (by rw [h4]; omega) (by unfold maxLen; omega) hK

theorem cp (hgd : o.guard = none) (d s : Operand) (t e : TypeId) (ho : o.op = .call { callee := .builtin .copy, args := #[d, s], argTypes := #[t, t] }) (hu : Try.prog.underlying t = some (.slice e)) (hsz : (Try.prog.info? e).map (·.size) = some 1)
    (g n : Nat) (ao : Option Addr) (len cap : Nat) (hd : a.eval d = .slice (some ⟨g, 0, none⟩) n n) (hs : a.eval s = .slice ao len cap) (W : World) (cur : Array Value) (hg : Hid (w.heap[g]? = some (.cells cur e (0, 0)))) (hc : Hid (cur.size = n * 1)) (V : Nat → Value) (harg : Arg W ao len V)
    (hn : n ≤ len) (hb0 : Below W.heap.size W w) (w0 : World) (hb : Below g w0 w) (hV : ∀ p, (V p).oneCell' = true)
    (h : ∀ w', Row w' g n V → Below g w0 w' → g < w'.heap.size → wpList Try.prog ops Q rest (a.put o.dst (goInt n)) w') : wpList Try.prog ops Q (o :: rest) a w := by
  have hl : ((List.range n).map V).length = n := by simp
  have hcn := hc.out
  refine wpList_copy_splice hgd d s t t ho e hu hsz _ _ _ _ _ _ hd hs g 0 cur.toList e (by simpa using hg.out) ((List.range n).map V) (by rw [hl]; exact (Nat.min_eq_right hn).symm)
    (fun hp => ⟨rfl, harg.src hn hb0 rfl hp⟩) (by rw [hl]; simp; omega) (fun v hv => by
      obtain ⟨q, _, rfl⟩ := List.mem_map.1 hv
      exact hV q) g w0 hb (Nat.le_refl _) ?_
  intro w' hw' hb'
  rw [hl]
  exact h w' (Row.of_splice hw'.out rfl) hb' (Array.getElem?_eq_some_iff.1 hw'.out).1
end

/-- The goal stands at a copy. -/
theorem at_copy {P : Program} {w : World} {ops : Array Oper} {rest : List Oper} {a : Act} {Q : Exit → Act → World → Prop} {dst : Option Tmp} {d s : Operand} {t u ty : TypeId} {pos : String} {after : Array Edge}
    (h : wpList P ops Q (Oper.mk dst (.call { callee := .builtin .copy, args := #[d, s], argTypes := #[t, u] }) ty pos after none :: rest) a w) :
    wpList P ops Q (Oper.mk dst (.call { callee := .builtin .copy, args := #[d, s], argTypes := #[t, u] }) ty pos after none :: rest) a w := h

theorem str_one (S : Nat → ByteArray) (p : Nat) : (str S p).oneCell' = true := rfl
theorem num_one (Z : Nat → Int) (p : Nat) : (num Z p).oneCell' = true := rfl

/-- All numbers of a script lie below n. -/
def Low (I : Nat → Nat) (L n : Nat) : Prop := ∀ q, q < L → I q < n

theorem Row.low {w : World} {g L : Nat} {Z : Nat → Int} (h : Row w g L (num Z)) (h0 : ∀ q, q < L → 0 ≤ Z q) : Row w g L (perm fun q => (Z q).toNat) :=
  h.congr fun p hp => by
    unfold num perm
    have := h0 p hp
    have e : Z p = (((Z p).toNat : Nat) : Int) := by omega
    exact congrArg (Value.int .i64) e

theorem put3_block (w : World) (g o k : Nat) (A : ByteArray) (h : k ≠ g) : (put3 w g o A).heap[k]? = w.heap[k]? := by
  unfold put3
  rw [Below.heap_setCell _ _ _ _ h, Below.heap_setCell _ _ _ _ h, Below.heap_setCell _ _ _ _ h]
theorem put3_size (w : World) (g o : Nat) (A : ByteArray) : (put3 w g o A).heap.size = w.heap.size := by simp [put3]
theorem put3_bel {W w : World} {g : Nat} (h : Below g W w) (o : Nat) (A : ByteArray) : Below g W (put3 w g o A) :=
  ((h.setCell (p := ⟨g, o, none⟩) (Nat.le_refl _) _).setCell (p := ⟨g, o + 1, none⟩) (Nat.le_refl _) _).setCell (p := ⟨g, o + 2, none⟩) (Nat.le_refl _) _

/-- The loop that fills the Values and the permutation. -/
structure Filling (W : World) (g h n : Nat) (X : Nat → ByteArray) (k : Nat) (w : World) : Prop where
  fill : Fill w g (2 * n) (2 * k) X
  row : ∃ V, Row w h n V ∧ ∀ q, q < k → V q = .int .i64 (q : Int)
  bel : Below g W w
  lt : h < w.heap.size

theorem Filling.start {W w : World} {g h n : Nat} (X : Nat → ByteArray) {A B : Array Value} {t u : TypeId} (hg : w.heap[g]? = some (.cells A t (0, 0))) (hA : A.size = 2 * n * 3) (hh : w.heap[h]? = some (.cells B u (0, 0))) (hB : B.size = n) (hb : Below g W w) : Filling W g h n X 0 w :=
  ⟨Fill.of_heap X hg hA, ⟨_, Row.of_heap hh hB, fun q hq => by omega⟩, hb, (Array.getElem?_eq_some_iff.1 hh).1⟩

/-- One round: a Value is made, laid; a second is made, laid; the permutation's place is set. -/
theorem Filling.next {W w w1 w2 : World} {g h n k : Nat} {S T : Nat → ByteArray} {f : Nat → Nat} (hf : ∀ p, f p = p) (H : Filling W g h n (Xp S T f) k w) (hk : k < n) (hgh : g < h)
    (h1 : w.grownBy w1 none) (h2 : (put3 w1 g (3 * (2 * k)) (S k)).grownBy w2 none) :
    Filling W g h n (Xp S T f) (k + 1) ((put3 w2 g (3 * (2 * k + 1)) (T k)).setCell ⟨h, k, none⟩ (.int .i64 (k : Int))) := by
  have hlt := H.lt
  have hlt1 : h < w1.heap.size := Nat.lt_of_lt_of_le hlt h1.size
  have hlt2 : h < w2.heap.size := Nat.lt_of_lt_of_le (by rw [put3_size]; exact hlt1) h2.size
  have F1 := H.fill.block (h1.block g (by omega) (by simp))
  have F2 := F1.put (by omega)
  rw [Xp_even, hf] at F2
  have F3 := F2.block (h2.block g (by rw [put3_size]; omega) (by simp))
  have F4 := F3.put (by omega)
  rw [Xp_odd, hf] at F4
  obtain ⟨V, hV, hq⟩ := H.row
  have V1 := hV.block (h1.block h hlt (by simp))
  have V2 := V1.block (put3_block w1 g (3 * (2 * k)) h (S k) (by omega))
  have V3 := V2.block (h2.block h (by rw [put3_size]; exact hlt1) (by simp))
  have V4 := V3.block (put3_block w2 g (3 * (2 * k + 1)) h (T k) (by omega))
  have B1 := H.bel.grown h1 (by omega) (fun k hk => by cases hk)
  have B2 := put3_bel B1 (3 * (2 * k)) (S k)
  have B3 := B2.grown h2 (by rw [put3_size]; omega) (fun k hk => by cases hk)
  have B4 := put3_bel B3 (3 * (2 * k + 1)) (T k)
  refine ⟨?_, ⟨_, V4.set k _, fun q hq' => ?_⟩, B4.setCell (by show g ≤ h; omega) _, by simp only [World.size_setCell, put3_size]; exact hlt2⟩
  · have e : 2 * (k + 1) = 2 * k + 1 + 1 := by omega
    rw [e]
    exact F4.block (Below.heap_setCell _ _ _ _ (by show g ≠ h; omega))
  · unfold updv
    by_cases e : q = k
    · rw [if_pos e, e]
    · rw [if_neg e]; exact hq q (by omega)
theorem Filling.done {W w : World} {g h n : Nat} {S T : Nat → ByteArray} {f : Nat → Nat} (hf : ∀ p, f p = p) (H : Filling W g h n (Xp S T f) n w) : Mem W g n S T f w ∧ Row w h n (perm f) := by
  obtain ⟨V, hV, hq⟩ := H.row
  exact ⟨⟨H.fill.vals, H.bel⟩, hV.congr fun p hp => by rw [hq p hp]; unfold perm; rw [hf]⟩

theorem Filling.one {W w w1 : World} {g h n k : Nat} {X : Nat → ByteArray} (H : Filling W g h n X k w) (hgh : g < h) (h1 : w.grownBy w1 none) : (∀ o, w1.frozen? ⟨g, o, none⟩ = false) ∧ ∀ o, o < 3 * (2 * n) → ∃ v, w1.cell? ⟨g, o, none⟩ = some v := by
  have hlt := H.lt
  have F1 := H.fill.block (h1.block g (by omega) (by simp))
  exact ⟨F1.free, F1.some_⟩
theorem Filling.two {W w w1 w2 : World} {g h n k o : Nat} {X : Nat → ByteArray} {A : ByteArray} (H : Filling W g h n X k w) (hgh : g < h) (h1 : w.grownBy w1 none) (h2 : (put3 w1 g o A).grownBy w2 none) :
    (∀ o, w2.frozen? ⟨g, o, none⟩ = false) ∧ (∀ o, o < 3 * (2 * n) → ∃ v, w2.cell? ⟨g, o, none⟩ = some v) ∧ (∀ o, w2.frozen? ⟨h, o, none⟩ = false) ∧ ∀ o, o < n → ∃ v, w2.cell? ⟨h, o, none⟩ = some v := by
  have hlt := H.lt
  have hlt1 : h < w1.heap.size := Nat.lt_of_lt_of_le hlt h1.size
  obtain ⟨f1, s1⟩ := H.one hgh h1
  obtain ⟨V, hV, hq⟩ := H.row
  have V1 := hV.block (h1.block h hlt (by simp))
  have V2 := V1.block (put3_block w1 g o h A (by omega))
  have V3 := V2.block (h2.block h (by rw [put3_size]; exact hlt1) (by simp))
  have eb := h2.block g (by rw [put3_size]; omega) (by simp)
  have s2 := set_some (set_some (set_some s1 o (.string A)) (o + 1) (.pointer none)) (o + 2) (.int .u64 3)
  refine ⟨fun q => ?_, fun q hq => ?_, V3.free, fun q hq => ⟨_, V3.cell q hq⟩⟩
  · rw [World.frozen?_of_block (a := ⟨g, q, none⟩) eb]
    simpa [put3] using f1 q
  · rw [World.cell?_of_block (a := ⟨g, q, none⟩) eb]
    exact s2 q hq

/-- The script's loop: the Values and the permutation. -/
structure Both (W : World) (g h n : Nat) (S T : Nat → ByteArray) (f : Nat → Nat) (w : World) : Prop where
  mem : Mem W g n S T f w
  row : Row w h n (perm f)
  lt : h < w.heap.size

theorem Mem.swapped {W w w1 : World} {g n i j : Nat} {S T : Nat → ByteArray} {f : Nat → Nat} (H : Mem W g n S T f w) (hg : g < w.heap.size) (hv : Vals w1 g (2 * n) (swp (Xp S T f) i j)) (h1 : w.grownBy w1 (some g)) : Mem W g n S T (sw f i j) w1 :=
  ⟨by rw [← swp_Xp]; exact hv, H.bel.grown h1 (by omega) (fun k hk => by cases hk; exact Nat.le_refl _)⟩
theorem Both.swapped {W w w1 : World} {g h n i j : Nat} {S T : Nat → ByteArray} {f : Nat → Nat} (H : Both W g h n S T f w) (hgh : g < h) (hv : Vals w1 g (2 * n) (swp (Xp S T f) i j)) (h1 : w.grownBy w1 (some g)) :
    Both W g h n S T (sw f i j) ((w1.setCell ⟨h, i, none⟩ (.int .i64 (f j : Int))).setCell ⟨h, j, none⟩ (.int .i64 (f i : Int))) := by
  have hlt := H.lt
  have M := H.mem.swapped (by omega) hv h1
  have R := H.row.block (h1.block h hlt (fun e => by cases e; omega))
  refine ⟨⟨?_, (M.bel.setCell (p := ⟨h, i, none⟩) (by show g ≤ h; omega) _).setCell (p := ⟨h, j, none⟩) (by show g ≤ h; omega) _⟩, perm_set R i j, ?_⟩
  · exact (M.vals.block (Below.heap_setCell _ _ _ _ (by show g ≠ h; omega))).block (Below.heap_setCell _ _ _ _ (by show g ≠ h; omega))
  · simp only [World.size_setCell]
    exact Nat.lt_of_lt_of_le hlt h1.size
theorem Both.drew {W w : World} {g h n : Nat} {S T : Nat → ByteArray} {f : Nat → Nat} (H : Both W g h n S T f w) : Both W g h n S T f w.drew := ⟨H.mem.drew, H.row.drew, H.lt⟩
theorem Mem.drewN {W w : World} {g n : Nat} {S T : Nat → ByteArray} {f : Nat → Nat} (H : Mem W g n S T f w) (q : Nat) : Mem W g n S T f (w.drewN q) :=
  ⟨⟨H.vals.free, H.vals.c0, H.vals.c1, H.vals.c2⟩, ⟨H.bel.os, H.bel.tape, H.bel.output, H.bel.size, H.bel.block⟩⟩
theorem Both.drewN {W w : World} {g h n : Nat} {S T : Nat → ByteArray} {f : Nat → Nat} (H : Both W g h n S T f w) (q : Nat) : Both W g h n S T f (w.drewN q) :=
  ⟨H.mem.drewN q, ⟨H.row.free, H.row.cell⟩, H.lt⟩

end Swap
end Go.Proofs.Qxb6001722a

/-
  The plain part of the swap script: the permutation behind k swaps, the texts that it lays; rows of the call's own; an argument's slice; make.
-/
import Derived.Test.Qxb6001722aSwapB
import Derived.Laws.CopyOwn
import Derived.OwnWalk
namespace Go.Proofs.Qxb6001722a
open Go.ChangeShapes Go.WideShapes Go.ChangeAt Go.RowKit
namespace Swap
set_option linter.unusedVariables false

def sw (f : Nat → Nat) (i j : Nat) : Nat → Nat := fun p => if p = i then f j else if p = j then f i else f p
/-- The permutation behind k swaps. -/
def pm (I J : Nat → Nat) : Nat → Nat → Nat
  | 0 => fun p => p
  | k + 1 => sw (pm I J k) (I k) (J k)
def Xp (S T : Nat → ByteArray) (f : Nat → Nat) : Nat → ByteArray := fun q => if q % 2 = 0 then S (f (q / 2)) else T (f (q / 2))

theorem Xp_even (S T : Nat → ByteArray) (f : Nat → Nat) (m : Nat) : Xp S T f (2 * m) = S (f m) := by
  unfold Xp
  rw [if_pos (by omega), show 2 * m / 2 = m by omega]
theorem Xp_odd (S T : Nat → ByteArray) (f : Nat → Nat) (m : Nat) : Xp S T f (2 * m + 1) = T (f m) := by
  unfold Xp
  rw [if_neg (by omega), show (2 * m + 1) / 2 = m by omega]

theorem swp_Xp (S T : Nat → ByteArray) (f : Nat → Nat) (i j : Nat) : swp (Xp S T f) i j = Xp S T (sw f i j) := by
  funext q
  have hq : q = 2 * (q / 2) ∨ q = 2 * (q / 2) + 1 := by omega
  generalize q / 2 = m at hq
  rcases hq with rfl | rfl
  · rw [Xp_even]
    unfold swp sw
    by_cases h1 : m = i
    · subst h1; simp [Xp_even]
    · by_cases h2 : m = j
      · subst h2
        rw [if_neg (by omega), if_neg (by omega), if_pos rfl, if_neg h1, if_pos rfl, Xp_even]
      · rw [if_neg (by omega), if_neg (by omega), if_neg (by omega), if_neg (by omega), if_neg h1, if_neg h2, Xp_even]
  · rw [Xp_odd]
    unfold swp sw
    by_cases h1 : m = i
    · subst h1
      rw [if_neg (by omega), if_pos rfl, if_pos rfl, Xp_odd]
    · by_cases h2 : m = j
      · subst h2
        rw [if_neg (by omega), if_neg (by omega), if_neg (by omega), if_pos rfl, if_neg h1, if_pos rfl, Xp_odd]
      · rw [if_neg (by omega), if_neg (by omega), if_neg (by omega), if_neg (by omega), if_neg h1, if_neg h2, Xp_odd]

theorem sw_sw (f : Nat → Nat) (i j : Nat) : sw (sw f i j) i j = f := by
  funext p
  unfold sw
  by_cases h1 : p = i
  · subst h1
    by_cases h2 : j = p
    · subst h2; simp
    · simp [h2]
  · by_cases h2 : p = j
    · subst h2; simp [h1]
    · simp [h1, h2]

theorem sw_lt {f : Nat → Nat} {i j n : Nat} (hi : i < n) (hj : j < n) (hf : ∀ p, p < n → f p < n) : ∀ p, p < n → sw f i j p < n := by
  intro p hp
  unfold sw
  repeat' split
  all_goals (apply hf; omega)

theorem pm_lt {I J : Nat → Nat} {n L : Nat} (hI : ∀ q, q < L → I q < n) (hJ : ∀ q, q < L → J q < n) : ∀ k, k ≤ L → ∀ p, p < n → pm I J k p < n
  | 0, _, p, hp => hp
  | k + 1, hk, p, hp => sw_lt (hI k (by omega)) (hJ k (by omega)) (pm_lt hI hJ k (by omega)) p hp

/-- A row of the call's own. -/
structure Row (w : World) (g n : Nat) (V : Nat → Value) : Prop where
  free : ∀ o, w.frozen? ⟨g, o, none⟩ = false
  cell : ∀ p, p < n → w.cell? ⟨g, p, none⟩ = some (V p)

def updv (V : Nat → Value) (k : Nat) (v : Value) : Nat → Value := fun q => if q = k then v else V q

theorem Row.set {w : World} {g n : Nat} {V : Nat → Value} (h : Row w g n V) (k : Nat) (v : Value) : Row (w.setCell ⟨g, k, none⟩ v) g n (updv V k v) := by
  refine ⟨fun o => by simpa using h.free o, fun p hp => ?_⟩
  by_cases e : p = k
  · subst e
    rw [World.cell?_setCell_same _ _ _ (h.cell p hp)]; simp [updv]
  · rw [other (by omega), h.cell p hp]; simp [updv, e]
theorem Row.congr {w : World} {g n : Nat} {V V' : Nat → Value} (h : Row w g n V) (e : ∀ p, p < n → V p = V' p) : Row w g n V' := ⟨h.free, fun p hp => by rw [← e p hp]; exact h.cell p hp⟩
theorem Row.drew {w : World} {g n : Nat} {V : Nat → Value} (h : Row w g n V) : Row w.drew g n V := ⟨h.free, h.cell⟩
theorem Row.block {w w' : World} {g n : Nat} {V : Nat → Value} (h : Row w g n V) (e : w'.heap[g]? = w.heap[g]?) : Row w' g n V :=
  ⟨fun o => (World.frozen?_of_block (w := w) (a := ⟨g, o, none⟩) e).trans (h.free o), fun p hp => (World.cell?_of_block (w := w) (a := ⟨g, p, none⟩) e).trans (h.cell p hp)⟩

theorem cell_heap {w : World} {g j : Nat} {A : Array Value} {t : TypeId} (h : w.heap[g]? = some (.cells A t (0, 0))) : w.cell? ⟨g, j, none⟩ = A[j]? := by simp [World.cell?, h]
theorem free_heap {w : World} {g j : Nat} {A : Array Value} {t : TypeId} (h : w.heap[g]? = some (.cells A t (0, 0))) : w.frozen? ⟨g, j, none⟩ = false := by simp [World.frozen?, h]

theorem Row.of_heap {w : World} {g n : Nat} {A : Array Value} {t : TypeId} (h : w.heap[g]? = some (.cells A t (0, 0))) (hA : A.size = n) : Row w g n (fun p => A.getD p undef) :=
  ⟨fun o => free_heap h, fun p hp => by
    rw [cell_heap h, Array.getElem?_eq_getElem (by omega)]
    simp [Array.getD, show p < A.size by omega]⟩
theorem Row.of_splice {w : World} {g n : Nat} {cur cs : List Value} {t : TypeId} {V : Nat → Value} (h : w.heap[g]? = some (.cells (splice cur 0 cs).toArray t (0, 0))) (hcs : cs = (List.range n).map V) : Row w g n V :=
  ⟨fun o => free_heap h, fun p hp => by
    rw [cell_heap h]
    subst hcs
    simp [splice, List.getElem?_append, hp]⟩

/-- The Values that are filled in one by one. -/
structure Fill (w : World) (g n k : Nat) (X : Nat → ByteArray) : Prop where
  free : ∀ o, w.frozen? ⟨g, o, none⟩ = false
  some_ : ∀ o, o < 3 * n → ∃ v, w.cell? ⟨g, o, none⟩ = some v
  c0 : ∀ p, p < k → w.cell? ⟨g, 3 * p, none⟩ = some (.string (X p))
  c1 : ∀ p, p < k → w.cell? ⟨g, 3 * p + 1, none⟩ = some (.pointer none)
  c2 : ∀ p, p < k → w.cell? ⟨g, 3 * p + 2, none⟩ = some (.int .u64 3)

theorem set_some {w : World} {g m : Nat} (h : ∀ o, o < m → ∃ v, w.cell? ⟨g, o, none⟩ = some v) (q : Nat) (x : Value) : ∀ o, o < m → ∃ v, (w.setCell ⟨g, q, none⟩ x).cell? ⟨g, o, none⟩ = some v := by
  intro o ho
  obtain ⟨v, hv⟩ := h o ho
  by_cases e : o = q
  · subst e; exact ⟨_, World.cell?_setCell_same _ _ _ hv⟩
  · exact ⟨v, by rw [other (by omega)]; exact hv⟩

theorem Fill.put {w : World} {g n k : Nat} {X : Nat → ByteArray} (h : Fill w g n k X) (hk : k < n) : Fill (put3 w g (3 * k) (X k)) g n (k + 1) X := by
  unfold put3
  have s0 := h.some_
  have s1 := set_some s0 (3 * k) (.string (X k))
  have s2 := set_some s1 (3 * k + 1) (.pointer none)
  refine ⟨fun o => by simpa using h.free o, set_some s2 _ _, fun p hp => ?_, fun p hp => ?_, fun p hp => ?_⟩
  · rw [other (by omega), other (by omega)]
    by_cases e : p = k
    · subst e
      obtain ⟨v, hv⟩ := s0 (3 * p) (by omega)
      rw [World.cell?_setCell_same _ _ _ hv]
    · rw [other (by omega), h.c0 p (by omega)]
  · rw [other (by omega)]
    by_cases e : p = k
    · subst e
      obtain ⟨v, hv⟩ := s1 (3 * p + 1) (by omega)
      rw [World.cell?_setCell_same _ _ _ hv]
    · rw [other (by omega), other (by omega), h.c1 p (by omega)]
  · by_cases e : p = k
    · subst e
      obtain ⟨v, hv⟩ := s2 (3 * p + 2) (by omega)
      rw [World.cell?_setCell_same _ _ _ hv]
    · rw [other (by omega), other (by omega), other (by omega), h.c2 p (by omega)]
theorem Fill.vals {w : World} {g n : Nat} {X : Nat → ByteArray} (h : Fill w g n n X) : Vals w g n X := ⟨h.free, h.c0, h.c1, h.c2⟩
theorem Fill.block {w w' : World} {g n k : Nat} {X : Nat → ByteArray} (h : Fill w g n k X) (e : w'.heap[g]? = w.heap[g]?) : Fill w' g n k X := by
  have hc : ∀ o, w'.cell? ⟨g, o, none⟩ = w.cell? ⟨g, o, none⟩ := fun o => World.cell?_of_block (w := w) (a := ⟨g, o, none⟩) e
  have hf : ∀ o, w'.frozen? ⟨g, o, none⟩ = w.frozen? ⟨g, o, none⟩ := fun o => World.frozen?_of_block (w := w) (a := ⟨g, o, none⟩) e
  exact ⟨fun o => (hf o).trans (h.free o), fun o ho => by rw [hc]; exact h.some_ o ho, fun p hp => (hc _).trans (h.c0 p hp), fun p hp => (hc _).trans (h.c1 p hp), fun p hp => (hc _).trans (h.c2 p hp)⟩
theorem Fill.of_heap {w : World} {g n : Nat} {A : Array Value} {t : TypeId} (X : Nat → ByteArray) (h : w.heap[g]? = some (.cells A t (0, 0))) (hA : A.size = n * 3) : Fill w g n 0 X :=
  ⟨fun o => free_heap h, fun o ho => ⟨_, by rw [cell_heap h]; exact Array.getElem?_eq_getElem (by omega)⟩, fun p hp => by omega, fun p hp => by omega, fun p hp => by omega⟩

/-- What is known of a slice that came in: its elements. -/
def Arg (w : World) (a : Option Addr) (len : Nat) (V : Nat → Value) : Prop := ∀ p, p < len → ∃ b off, a = some ⟨b, off, none⟩ ∧ ∀ q, q < len → w.cell? ⟨b, off + q, none⟩ = some (V q)

theorem Arg.src {w w1 : World} {a : Option Addr} {len n : Nat} {V : Nat → Value} {cs : List Value} (h : Arg w a len V) (hn : n ≤ len) (hb : Below w.heap.size w w1) (hcs : cs = (List.range n).map V) :
    0 < cs.length → ∃ ad, a = some ad ∧ ∀ j v, cs[j]? = some v → w1.cell? (ad.add j) = some v := by
  intro hp
  subst hcs
  simp at hp
  obtain ⟨b, off, rfl, hc⟩ := h 0 (by omega)
  refine ⟨_, rfl, fun j v hj => ?_⟩
  have hj' : j < n := by
    have := (List.getElem?_eq_some_iff.1 hj).1
    simpa using this
  have e : V j = v := by simpa [hj'] using hj
  subst e
  rw [Go.WideShapes.add_plain]
  have hcj := hc j (by omega)
  have hlt : b < w.heap.size := World.block_lt_of_cell? w _ hcj
  exact (hb.cell hlt).trans hcj

theorem src_len {cs : List Value} {n : Nat} {V : Nat → Value} (hcs : cs = (List.range n).map V) : cs.length = n := by subst hcs; simp

/-- make, with all that the walk wants of the new row. -/
theorem wp_make {P : Program} (w : World) {ops : Array Oper} {rest : List Oper} {o : Oper} {a : Act} {Q : Exit → Act → World → Prop}
    (hg : o.guard = none) (l c : Operand) (t : TypeId) (hop : o.op = Op.makeSlice t l c)
    (e : TypeId) (i : TypeInfo) (z : Value) (size : Nat) (h1 : P.underlying t = some (.slice e)) (h2 : P.info? e = some i) (h3 : i.zero = some z) (h4 : i.size = size)
    (kl kc : IntKind) (L C : Int) (n : Nat) (hl : a.eval l = .int kl L) (hc : a.eval c = .int kc C) (hL : L = (n : Int)) (hC : C = (n : Int)) (b2 : i.bytes * n ≤ 281474976710656) (b3 : n ≤ maxLen)
    (hK : ∀ w' cur, Hid (w'.heap[w.heap.size]? = some (.cells cur e (0, 0))) → Hid (cur.size = n * size) → Below w.heap.size w w' → w.heap.size < w'.heap.size → wpList P ops Q rest (a.put o.dst (.slice (some ⟨w.heap.size, 0, none⟩) n n)) w') :
    wpList P ops Q (o :: rest) a w := by
  refine wpList_make_full w hg l c t hop w.heap.size e i z size h1 h2 h3 h4 kl kc L C n hl hc hL hC b2 b3 (Nat.le_refl _) ?_
  intro w' hown hgrow
  rcases hown.2 with ⟨h, _⟩ | ⟨g, cap, cur, hv, hb, hg', hn, hcap, hs, _⟩
  · cases h
  · have hv' : w.heap.size = g ∧ n = cap := by
      simp only [Value.slice.injEq, Option.some.injEq, Addr.mk.injEq] at hv
      exact ⟨hv.1.1, hv.2.2⟩
    obtain ⟨rfl, rfl⟩ := hv'
    exact hK w' cur hg' hs ((Below.refl _ _).grown hgrow (Nat.le_refl _) (fun k hk => by cases hk)) (Array.getElem?_eq_some_iff.1 hg').1

/-- The Values and what lies below them, in the middle of the script. -/
structure Mem (W : World) (g n : Nat) (S T : Nat → ByteArray) (f : Nat → Nat) (w : World) : Prop where
  vals : Vals w g (2 * n) (Xp S T f)
  bel : Below g W w

theorem Mem.drew {W : World} {g n : Nat} {S T : Nat → ByteArray} {f : Nat → Nat} {w : World} (h : Mem W g n S T f w) : Mem W g n S T f w.drew := ⟨h.vals.drew, h.bel.drew⟩

def perm (f : Nat → Nat) : Nat → Value := fun p => .int .i64 (f p)

theorem perm_set {w : World} {g n : Nat} {f : Nat → Nat} (h : Row w g n (perm f)) (i j : Nat) :
    Row ((w.setCell ⟨g, i, none⟩ (.int .i64 (f j))).setCell ⟨g, j, none⟩ (.int .i64 (f i))) g n (perm (sw f i j)) := by
  refine ((h.set i _).set j _).congr fun p hp => ?_
  unfold updv perm sw
  by_cases h1 : p = j
  · subst h1
    by_cases h2 : p = i
    · subst h2; simp
    · simp [h2]
  · by_cases h2 : p = i
    · subst h2; simp [h1]
    · simp [h1, h2]

end Swap
end Go.Proofs.Qxb6001722a

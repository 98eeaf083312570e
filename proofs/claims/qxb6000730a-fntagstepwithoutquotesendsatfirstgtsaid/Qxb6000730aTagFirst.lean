/-
  FnTagStepWithoutQuotesEndsAtFirstGT: the plain law and the walk.
-/
import Derived.Test.Qxb6000730aTagNew
namespace Go.Proofs.Qxb6000730a
open Go.ChangeShapes Go.WideShapes Go.ChangeAt Go.RowKit
namespace TagFirst
open Tag
set_option linter.unusedVariables false

/-- Up to place k no quote, and no NUL where the page may end. -/
def Plain (s : ByteArray) (long : Bool) (k : Nat) : Prop := ∀ j (h : j < s.size), j < k → s[j].toNat ≠ 39 ∧ s[j].toNat ≠ 34 ∧ (long = true ∨ s[j].toNat ≠ 0)

theorem plain_succ {s : ByteArray} {long : Bool} {k : Nat} (h : Plain s long k) (hk : k < s.size) (h1 : s[k].toNat ≠ 39) (h2 : s[k].toNat ≠ 34) (h3 : long = true ∨ s[k].toNat ≠ 0) : Plain s long (k + 1) := by
  intro j hj hlt
  by_cases e : j = k
  · subst e; exact ⟨h1, h2, h3⟩
  · exact h j hj (by omega)

/-- What holds of the reader behind k plain bytes. -/
structure On (k : Nat) (m : M) : Prop where
  t0 : 0 ≤ m.tag
  t8 : m.tag ≤ 8
  t7 : m.tag ≠ 7
  l0 : 0 ≤ m.last
  l1 : m.last ≤ 255
  n0 : 0 ≤ m.named
  n1 : m.named ≤ k
  q0 : 0 ≤ m.equals
  q1 : m.equals ≤ k

theorem On.fit {k : Nat} {m : M} (h : On k m) (hk : k ≤ 65536) : Fit m :=
  ⟨h.t0, h.t8, h.l0, h.l1, h.n0, by have := h.n1; omega, h.q0, by have := h.q1; omega⟩

theorem on_zero : On 0 m0 := by constructor <;> simp [m0]

theorem ite_on {k : Nat} {c : Prop} [Decidable c] {x y : M × Int} {r : Int} (hx : c → On k x.1 ∧ x.2 = r) (hy : ¬ c → On k y.1 ∧ y.2 = r) : On k (if c then x else y).1 ∧ (if c then x else y).2 = r := by
  by_cases h : c
  · simp only [if_pos h]; exact hx h
  · simp only [if_neg h]; exact hy h

theorem step_on {k : Nat} {m : M} (h : On k m) (c held : Int) (long : Bool) (h0 : 0 ≤ c) (h1 : c ≤ 255) (h39 : c ≠ 39) (h34 : c ≠ 34) (hz : long = true ∨ c ≠ 0) (h62 : c ≠ 62) : On (k + 1) (Tag.step m c held long).1 ∧ (Tag.step m c held long).2 = 0 := by
  obtain ⟨t0, t8, t7, l0, l1, n0, n1, q0, q1⟩ := h
  unfold Tag.step
  repeat' (first | (refine ite_on ?_ ?_) | intro _)
  all_goals first
    | (exfalso; omega)
    | (refine ⟨?_, rfl⟩; constructor <;> simp only <;> omega)
    | (exfalso; rcases hz with hz | hz <;> simp_all)

theorem step_gt {k : Nat} {m : M} (h : On k m) (held : Int) (long : Bool) : (Tag.step m 62 held long).2 = 1 := by
  obtain ⟨t0, t8, t7, l0, l1, n0, n1, q0, q1⟩ := h
  have h9 : m.tag = 0 ∨ m.tag = 1 ∨ m.tag = 2 ∨ m.tag = 3 ∨ m.tag = 4 ∨ m.tag = 5 ∨ m.tag = 6 ∨ m.tag = 8 := by omega
  rcases h9 with ht | ht | ht | ht | ht | ht | ht | ht <;> simp [Tag.step, ht]

end TagFirst
end Go.Proofs.Qxb6000730a

/-
  Digits, plainly: the list of a number's digits, least first; read back from the other end.
-/
import Derived.Test.Qxb6000730aRefAll
namespace Go.Proofs.Qxb6000730a
namespace Dig
open Ref (hx)

/-- The value of a list of digits, the least first. -/
def val (bs : Nat) : List Int → Nat
  | [] => 0
  | c :: cs => (hx c).toNat + bs * val bs cs

theorem val_snoc (bs : Nat) (ds : List Int) (c : Int) : val bs (ds ++ [c]) = val bs ds + bs ^ ds.length * (hx c).toNat := by
  induction ds with
  | nil => simp [val]
  | cons d ds ih =>
    simp only [List.cons_append, val, ih, List.length_cons, Nat.pow_succ]
    rw [Nat.mul_add, Nat.mul_comm (bs ^ ds.length) bs, Nat.mul_assoc, Nat.add_assoc]

/-- The sign of a digit. -/
def sign (up : Bool) (d : Int) : Int := if d < 10 then 48 + d else if up = true then 65 + d - 10 else 97 + d - 10

theorem hx_sign (up : Bool) (d : Int) (h0 : 0 ≤ d) (h1 : d ≤ 15) : hx (sign up d) = d ∧ 0 ≤ sign up d ∧ sign up d ≤ 255 := by
  unfold sign hx
  by_cases a : d < 10
  · rw [if_pos a, if_pos (by omega)]; omega
  · rw [if_neg a]
    cases up with
    | true => simp only [if_true]; rw [if_neg (by omega), if_neg (by omega), if_pos (by omega)]; omega
    | false => simp only [Bool.false_eq_true, if_false]; rw [if_neg (by omega), if_pos (by omega)]; omega

/-- Behind some rounds: the digits ds are laid, m is left of n. -/
structure Part (bs n : Nat) (ds : List Int) (m : Nat) : Prop where
  rng : ∀ c ∈ ds, 0 ≤ c ∧ c ≤ 255 ∧ 0 ≤ hx c ∧ hx c < bs
  sum : val bs ds + bs ^ ds.length * m = n

theorem Part.start (bs n : Nat) : Part bs n [] n := ⟨by simp, by simp [val]⟩

theorem Part.next {bs n : Nat} {ds : List Int} {m : Nat} (h : Part bs n ds m) (hb0 : 2 ≤ bs) (hb : bs ≤ 16) (up : Bool) : Part bs n (ds ++ [sign up ((m : Int) % bs)]) (m / bs) := by
  have hm1 : (0 : Int) ≤ (m : Int) % bs := Int.emod_nonneg _ (by omega)
  have hm2 : (m : Int) % bs < bs := Int.emod_lt_of_pos _ (by omega)
  obtain ⟨h1, h2, h3⟩ := hx_sign up ((m : Int) % bs) hm1 (by omega)
  refine ⟨fun c hc => ?_, ?_⟩
  · rcases List.mem_append.1 hc with hc | hc
    · exact h.rng c hc
    · simp at hc; subst hc; omega
  · rw [val_snoc, h1, List.length_append, List.length_singleton, Nat.pow_succ, ← h.sum]
    have e : ((m : Int) % bs).toNat = m % bs := by omega
    rw [e, Nat.add_assoc, Nat.mul_assoc, ← Nat.mul_add, Nat.mod_add_div]

theorem Part.len {bs n : Nat} {ds : List Int} {m : Nat} (h : Part bs n ds m) (hb0 : 2 ≤ bs) (hm : 0 < m) (hn : n < 18446744073709551616) : ds.length < 64 := by
  have h1 : 2 ^ ds.length ≤ bs ^ ds.length := Nat.pow_le_pow_left hb0 _
  have h2 : bs ^ ds.length ≤ bs ^ ds.length * m := Nat.le_mul_of_pos_right _ hm
  have h3 := h.sum
  have h4 : 2 ^ ds.length < 2 ^ 64 := by
    have : (2 : Nat) ^ 64 = 18446744073709551616 := by decide
    omega
  exact (Nat.pow_lt_pow_iff_right (by omega)).1 h4

/-- Read from the other end, the greatest first. -/
def read (bs : Nat) (v : Nat) (ds : List Int) : Nat := ds.foldl (fun v c => v * bs + (hx c).toNat) v

theorem read_reverse (bs : Nat) (ds : List Int) : read bs 0 ds.reverse = val bs ds := by
  unfold read
  induction ds with
  | nil => rfl
  | cons d ds ih => rw [List.reverse_cons, List.foldl_append, ih]; simp only [List.foldl_cons, List.foldl_nil, val]; rw [Nat.mul_comm, Nat.add_comm]

/-- The digits of n. -/
structure Whole (bs n : Nat) (ds : List Int) : Prop where
  rng : ∀ c ∈ ds, 0 ≤ c ∧ c ≤ 255 ∧ 0 ≤ hx c ∧ hx c < bs
  ne : ds ≠ []
  len : ds.length ≤ 64
  sum : read bs 0 ds = n

theorem Part.whole {bs n : Nat} {ds : List Int} (h : Part bs n ds 0) (hn : 0 < n) (hl : ds.length ≤ 64) : Whole bs n ds.reverse := by
  refine ⟨fun c hc => h.rng c (List.mem_reverse.1 hc), fun e => ?_, by simpa using hl, by rw [read_reverse]; have := h.sum; simpa using this⟩
  have e' : ds = [] := by simpa using e
  subst e'
  have := h.sum
  simp [val] at this
  omega

theorem whole_zero (bs : Nat) (h : 2 ≤ bs) : Whole bs 0 [48] := by
  refine ⟨fun c hc => ?_, by simp, by simp, by simp [read, hx]⟩
  simp at hc; subst hc; simp [hx]; omega

end Dig
end Go.Proofs.Qxb6000730a

/-
  The plain law of FnCharRefDecimalAndHexAgree: digits fed to the reader give their number, capped.
-/
import Derived.Test.Qxb6000730aFeed
namespace Go.Proofs.Qxb6000730a
namespace Agree
open Ref (hx cap feed r0 R)
open Dig (read)

theorem dec_of_hx {c : Int} (h0 : 0 ≤ hx c) (h9 : hx c < 10) : 48 ≤ c ∧ c ≤ 57 ∧ hx c = c - 48 := by
  unfold hx at h0 h9 ⊢
  by_cases a : 48 ≤ c ∧ c ≤ 57
  · rw [if_pos a]; omega
  · rw [if_neg a] at h0 h9
    by_cases b : 97 ≤ c ∧ c ≤ 102
    · rw [if_pos b] at h0 h9; omega
    · rw [if_neg b] at h0 h9
      by_cases d : 65 ≤ c ∧ c ≤ 70
      · rw [if_pos d] at h0 h9; omega
      · rw [if_neg d] at h0; omega

theorem cap_step (V d bs : Nat) (hb : 2 ≤ bs) : cap (cap (V : Int) * bs + d) = cap ((V * bs + d : Nat) : Int) := by
  unfold cap
  by_cases h : (V : Int) ≤ 1114112
  · rw [if_pos h]
    have e : ((V * bs + d : Nat) : Int) = (V : Int) * bs + d := by simp
    rw [e]
  · rw [if_neg h]
    have h1 : 1114113 * bs ≤ V * bs := Nat.mul_le_mul_right _ (by omega)
    rw [if_neg, if_neg]
    · omega
    · have : (1114112 : Int) * bs = ((1114112 * bs : Nat) : Int) := by simp
      omega

/-- In the digits of a decimal number. -/
theorem feed3 (ds : List Int) (hr : ∀ c ∈ ds, 0 ≤ hx c ∧ hx c < 10) : ∀ (r : R) (i : Int) (V : Nat), r.st = 3 → r.value = cap (V : Int) → feed r i (ds ++ [59]) = (i + ds.length, true, cap (read 10 V ds : Nat)) := by
  induction ds with
  | nil =>
    intro r i V hs hv
    simp [feed, Ref.step, hs, hv, Dig.read]
  | cons c cs ih =>
    intro r i V hs hv
    obtain ⟨a, b⟩ := hr c (by simp)
    obtain ⟨a1, a2, a3⟩ := dec_of_hx a b
    have hstep : Ref.step r c = ({ r with value := cap (r.value * 10 + (c - 48)) }, false, true) := by simp [Ref.step, hs, a1, a2]
    rw [List.cons_append, feed, hstep]
    simp only [Bool.false_eq_true, if_false]
    have hnew : cap (r.value * 10 + (c - 48)) = cap ((V * 10 + (hx c).toNat : Nat) : Int) := by
      rw [hv, ← a3]
      have := cap_step V (hx c).toNat 10 (by omega)
      rw [← this]
      congr 1
      omega
    rw [ih (fun x hx' => hr x (by simp [hx'])) { r with value := cap (r.value * 10 + (c - 48)) } _ (V * 10 + (hx c).toNat) hs hnew]
    simp only [Dig.read, List.foldl_cons, List.length_cons]
    congr 1
    omega

theorem feed4 (ds : List Int) (hr : ∀ c ∈ ds, 0 ≤ hx c ∧ hx c < 16) : ∀ (r : R) (i : Int) (V : Nat), r.st = 4 → r.value = cap (V : Int) → feed r i (ds ++ [59]) = (i + ds.length, true, cap (read 16 V ds : Nat)) := by
  induction ds with
  | nil =>
    intro r i V hs hv
    have h59 : hx 59 = -1 := by decide
    simp [feed, Ref.step, hs, hv, Dig.read, h59]
  | cons c cs ih =>
    intro r i V hs hv
    obtain ⟨a, b⟩ := hr c (by simp)
    have hstep : Ref.step r c = ({ r with value := cap (r.value * 16 + hx c) }, false, true) := by simp [Ref.step, hs, a]
    rw [List.cons_append, feed, hstep]
    simp only [Bool.false_eq_true, if_false]
    have hnew : cap (r.value * 16 + hx c) = cap ((V * 16 + (hx c).toNat : Nat) : Int) := by
      rw [hv]
      have := cap_step V (hx c).toNat 16 (by omega)
      rw [← this]
      congr 1
      omega
    rw [ih (fun x hx' => hr x (by simp [hx'])) { r with value := cap (r.value * 16 + hx c) } _ (V * 16 + (hx c).toNat) hs hnew]
    simp only [Dig.read, List.foldl_cons, List.length_cons]
    congr 1
    omega

theorem cap_small {d : Int} (h : d ≤ 15) : cap d = d := by unfold cap; rw [if_pos (by omega)]

theorem feed_dec (ds : List Int) (hr : ∀ c ∈ ds, 0 ≤ hx c ∧ hx c < 10) (hne : ds ≠ []) : feed r0 0 (35 :: (ds ++ [59])) = ((ds.length : Int) + 1, true, cap (read 10 0 ds : Nat)) := by
  cases ds with
  | nil => exact absurd rfl hne
  | cons c cs =>
    obtain ⟨a, b⟩ := hr c (by simp)
    obtain ⟨a1, a2, a3⟩ := dec_of_hx a b
    have h1 : Ref.step r0 35 = ({ r0 with st := 1 }, false, true) := by simp [Ref.step, r0]
    have h2 : Ref.step { r0 with st := 1 } c = ({ r0 with st := 3, value := c - 48 }, false, true) := by simp [Ref.step, a1, a2]
    rw [feed, h1]
    simp only [Bool.false_eq_true, if_false, List.cons_append]
    rw [feed, h2]
    simp only [Bool.false_eq_true, if_false]
    rw [feed3 cs (fun x hx' => hr x (by simp [hx'])) _ _ (hx c).toNat rfl (by show c - 48 = _; rw [cap_small (by omega)]; omega)]
    simp only [Dig.read, List.foldl_cons, List.length_cons, Nat.zero_mul, Nat.zero_add]
    congr 1
    omega

theorem feed_hex (x : Int) (hx1 : x = 120 ∨ x = 88) (ds : List Int) (hr : ∀ c ∈ ds, 0 ≤ hx c ∧ hx c < 16) (hne : ds ≠ []) : feed r0 0 (35 :: x :: (ds ++ [59])) = ((ds.length : Int) + 2, true, cap (read 16 0 ds : Nat)) := by
  cases ds with
  | nil => exact absurd rfl hne
  | cons c cs =>
    obtain ⟨a, b⟩ := hr c (by simp)
    have h1 : Ref.step r0 35 = ({ r0 with st := 1 }, false, true) := by simp [Ref.step, r0]
    have h2 : Ref.step { r0 with st := 1 } x = ({ r0 with st := 2 }, false, true) := by rcases hx1 with rfl | rfl <;> simp [Ref.step]
    have h3 : Ref.step { r0 with st := 2 } c = ({ r0 with st := 4, value := hx c }, false, true) := by simp [Ref.step, a]
    rw [feed, h1]
    simp only [Bool.false_eq_true, if_false, List.cons_append]
    rw [feed, h2]
    simp only [Bool.false_eq_true, if_false]
    rw [feed, h3]
    simp only [Bool.false_eq_true, if_false]
    rw [feed4 cs (fun y hy => hr y (by simp [hy])) _ _ (hx c).toNat rfl (by show hx c = _; rw [cap_small (by omega)]; omega)]
    simp only [Dig.read, List.foldl_cons, List.length_cons, Nat.zero_mul, Nat.zero_add]
    congr 1
    omega

theorem read_zeros (bs z : Nat) (ds : List Int) : read bs 0 (List.replicate z 48 ++ ds) = read bs 0 ds := by
  unfold Dig.read
  induction z with
  | zero => rfl
  | succ z ih =>
    rw [List.replicate_succ, List.cons_append, List.foldl_cons]
    have : (hx 48).toNat = 0 := by decide
    rw [this, Nat.zero_mul]
    exact ih

end Agree
end Go.Proofs.Qxb6000730a

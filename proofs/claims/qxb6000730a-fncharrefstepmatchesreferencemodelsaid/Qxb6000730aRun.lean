/-
  A whole text fed to a fresh charRef, case by case, plainly.
-/
import Derived.Test.Qxb6000730aNum
namespace Go.Proofs.Qxb6000730a
namespace Run
open Ref (hx nm cap r0 R put)

/-- Where it ended (-1: nowhere), whether that byte was taken, the reference then. -/
def run (r : R) (i : Int) : List Int → Int × Bool × R
  | [] => (-1, false, r)
  | c :: cs => if (Ref.step r c).2.1 = true then (i, (Ref.step r c).2.2, (Ref.step r c).1) else run (Ref.step r c).1 (i + 1) cs

/-- The bytes of the name that it holds. -/
def names (r : R) : List Int := (List.range r.n).map r.name

theorem run_on {r r' : R} {i c : Int} {q : List Int} (h : Ref.step r c = (r', false, true)) : run r i (c :: q) = run r' (i + 1) q := by
  rw [run, h]; simp
theorem run_end {r r' : R} {i c : Int} {b : Bool} {q : List Int} (h : Ref.step r c = (r', true, b)) : run r i (c :: q) = (i, b, r') := by
  rw [run, h]; simp

theorem names_put (r : R) (c : Int) (st : Int) : names { r with st := st, name := put r.name r.n c, n := r.n + 1 } = names r ++ [c] := by
  simp only [names, List.range_succ, List.map_append, List.map_cons, List.map_nil]
  congr 1
  · refine List.map_congr_left fun j hj => ?_
    have : j ≠ r.n := by have := List.mem_range.1 hj; omega
    simp [put, this]
  · simp [put]

theorem run_name (p : List Int) : ∀ (q : List Int) (r : R) (i : Int), r.st = 5 → (∀ c ∈ p, nm c = true) → r.n + p.length ≤ 32 → ∃ r', r'.st = 5 ∧ r'.value = r.value ∧ r'.n = r.n + p.length ∧ names r' = names r ++ p ∧ run r i (p ++ q) = run r' (i + p.length) q := by
  induction p with
  | nil => intro q r i hs _ _; exact ⟨r, hs, rfl, rfl, by simp, by simp⟩
  | cons c cs ih =>
    intro q r i hs hp hn
    simp only [List.length_cons] at hn
    have hc := hp c (by simp)
    have hstep : Ref.step r c = ({ r with st := 5, name := put r.name r.n c, n := r.n + 1 }, false, true) := by
      cases r
      simp only at hs
      subst hs
      simp only [Ref.step]
      rw [if_neg (by omega), if_neg (by omega), if_neg (by omega), if_neg (by omega), if_neg (by omega), if_pos ⟨hc, by simp only at hn; omega⟩]
    obtain ⟨r', h1, h2, h3, h4, h5⟩ := ih q { r with st := 5, name := put r.name r.n c, n := r.n + 1 } (i + 1) rfl (fun x hx' => hp x (by simp [hx'])) (by simp only; omega)
    refine ⟨r', h1, h2, by simp only [h3, List.length_cons]; omega, ?_, ?_⟩
    · rw [h4, names_put]; simp
    · rw [List.cons_append, run_on hstep, h5]
      congr 1
      simp only [List.length_cons]
      omega

theorem run_dec (p : List Int) : ∀ (q : List Int) (r : R) (i : Int) (V : Nat), r.st = 3 → r.value = cap (V : Int) → (∀ c ∈ p, 0 ≤ hx c ∧ hx c < 10) → ∃ r', r'.st = 3 ∧ r'.value = cap (Dig.read 10 V p : Nat) ∧ names r' = names r ∧ run r i (p ++ q) = run r' (i + p.length) q := by
  induction p with
  | nil => intro q r i V hs hv _; exact ⟨r, hs, hv, rfl, by simp⟩
  | cons c cs ih =>
    intro q r i V hs hv hp
    obtain ⟨a, b⟩ := hp c (by simp)
    obtain ⟨a1, a2, a3⟩ := Agree.dec_of_hx a b
    have hstep : Ref.step r c = ({ r with value := cap (r.value * 10 + (c - 48)) }, false, true) := by simp [Ref.step, hs, a1, a2]
    have hnew : cap (r.value * 10 + (c - 48)) = cap ((V * 10 + (hx c).toNat : Nat) : Int) := by
      rw [hv, ← a3, ← Agree.cap_step V (hx c).toNat 10 (by omega)]
      congr 1
      omega
    obtain ⟨r', h1, h2, h3, h5⟩ := ih q { r with value := cap (r.value * 10 + (c - 48)) } (i + 1) (V * 10 + (hx c).toNat) hs hnew (fun x hx' => hp x (by simp [hx']))
    refine ⟨r', h1, h2, h3, ?_⟩
    rw [List.cons_append, run_on hstep, h5]
    congr 1
    simp only [List.length_cons]
    omega

theorem run_hex (p : List Int) : ∀ (q : List Int) (r : R) (i : Int) (V : Nat), r.st = 4 → r.value = cap (V : Int) → (∀ c ∈ p, 0 ≤ hx c ∧ hx c < 16) → ∃ r', r'.st = 4 ∧ r'.value = cap (Dig.read 16 V p : Nat) ∧ names r' = names r ∧ run r i (p ++ q) = run r' (i + p.length) q := by
  induction p with
  | nil => intro q r i V hs hv _; exact ⟨r, hs, hv, rfl, by simp⟩
  | cons c cs ih =>
    intro q r i V hs hv hp
    obtain ⟨a, b⟩ := hp c (by simp)
    have hstep : Ref.step r c = ({ r with value := cap (r.value * 16 + hx c) }, false, true) := by simp [Ref.step, hs, a]
    have hnew : cap (r.value * 16 + hx c) = cap ((V * 16 + (hx c).toNat : Nat) : Int) := by
      rw [hv, ← Agree.cap_step V (hx c).toNat 16 (by omega)]
      congr 1
      omega
    obtain ⟨r', h1, h2, h3, h5⟩ := ih q { r with value := cap (r.value * 16 + hx c) } (i + 1) (V * 16 + (hx c).toNat) hs hnew (fun x hx' => hp x (by simp [hx']))
    refine ⟨r', h1, h2, h3, ?_⟩
    rw [List.cons_append, run_on hstep, h5]
    congr 1
    simp only [List.length_cons]
    omega

/-! ### The cases -/
def r1 : R := { r0 with st := 1 }
def r2 : R := { r0 with st := 2 }
theorem step_hash : Ref.step r0 35 = (r1, false, true) := by simp [Ref.step, r0, r1]
theorem names_r0 : names r0 = [] := rfl

theorem c_none (c : Int) (q : List Int) (h : c ≠ 35) (hn : nm c = false) : run r0 0 (c :: q) = (0, false, r0) :=
  run_end (by simp [Ref.step, r0, h, hn])

/-- A name: the reference behind its bytes p. -/
theorem c_name (p q : List Int) (hne : p ≠ []) (hp : ∀ c ∈ p, nm c = true) (hl : p.length ≤ 32) : ∃ r', r'.st = 5 ∧ r'.value = 0 ∧ r'.n = p.length ∧ names r' = p ∧ run r0 0 (p ++ q) = run r' p.length q := by
  cases p with
  | nil => exact absurd rfl hne
  | cons c cs =>
    have hc := hp c (by simp)
    have h35 : c ≠ 35 := by intro e; subst e; revert hc; decide
    have hstep : Ref.step r0 c = ({ r0 with st := 5, name := put r0.name 0 c, n := 1 }, false, true) := by simp [Ref.step, r0, h35, hc]
    obtain ⟨r', h1, h2, h3, h4, h5⟩ := run_name cs q { r0 with st := 5, name := put r0.name 0 c, n := 1 } 1 rfl (fun x hx' => hp x (by simp [hx'])) (by simp only [List.length_cons] at hl; simp only; omega)
    refine ⟨r', h1, h2, by simp only [h3, List.length_cons]; omega, ?_, ?_⟩
    · rw [h4]
      have : names { r0 with st := 5, name := put r0.name 0 c, n := 1 } = [c] := by simp [names, put]
      rw [this]; rfl
    · rw [List.cons_append, run_on hstep]
      show run _ (0 + 1) _ = _
      rw [show (0 : Int) + 1 = 1 from rfl, h5]
      congr 1
      simp only [List.length_cons]
      omega

theorem stop5 {r : R} (hs : r.st = 5) (i c : Int) (q : List Int) (h : nm c = false ∨ r.n = 32) : run r i (c :: q) = (i, c == 59, r) := by
  refine run_end ?_
  have hno : ¬ (nm c = true ∧ r.n < 32) := by
    rintro ⟨a, b⟩
    rcases h with h | h
    · rw [h] at a; cases a
    · omega
  simp only [Ref.step, hs]
  rw [if_neg (by omega), if_neg (by omega), if_neg (by omega), if_neg (by omega), if_neg (by omega), if_neg hno]

theorem c_name_all (L : List Int) (hne : L ≠ []) (hp : ∀ c ∈ L, nm c = true) (hl : L.length ≤ 32) : ∃ r', r'.value = 0 ∧ names r' = L ∧ run r0 0 L = (-1, false, r') := by
  obtain ⟨r', _, h2, _, h4, h5⟩ := c_name L [] hne hp hl
  exact ⟨r', h2, h4, by simpa [run] using h5⟩
theorem c_name_stop (p q : List Int) (c : Int) (hne : p ≠ []) (hp : ∀ c ∈ p, nm c = true) (hl : p.length ≤ 32) (h : nm c = false ∨ p.length = 32) : ∃ r', r'.value = 0 ∧ names r' = p ∧ run r0 0 (p ++ c :: q) = ((p.length : Int), c == 59, r') := by
  obtain ⟨r', h1, h2, h3, h4, h5⟩ := c_name p (c :: q) hne hp hl
  exact ⟨r', h2, h4, by rw [h5, stop5 h1 _ _ _ (by rw [h3]; exact h)]⟩

theorem c_hash : run r0 0 [35] = (-1, false, r1) := by rw [run_on step_hash]; rfl
theorem c_hash_bad (c : Int) (q : List Int) (h : ¬ (48 ≤ c ∧ c ≤ 57)) (hx1 : c ≠ 120) (hx2 : c ≠ 88) : run r0 0 (35 :: c :: q) = (1, false, r1) := by
  rw [run_on step_hash]
  exact run_end (by simp [Ref.step, r1, h, hx1, hx2])
theorem step_x (x : Int) (h : x = 120 ∨ x = 88) : Ref.step r1 x = (r2, false, true) := by rcases h with rfl | rfl <;> simp [Ref.step, r1, r2]
theorem c_x (x : Int) (h : x = 120 ∨ x = 88) : run r0 0 [35, x] = (-1, false, r2) := by rw [run_on step_hash, run_on (step_x x h)]; rfl
theorem c_x_bad (x c : Int) (q : List Int) (h : x = 120 ∨ x = 88) (hc : hx c < 0) : run r0 0 (35 :: x :: c :: q) = (2, false, r2) := by
  rw [run_on step_hash, run_on (step_x x h)]
  have : ¬ 0 ≤ hx c := by omega
  exact run_end (by simp [Ref.step, r2, this])

theorem c_dec (p q : List Int) (hne : p ≠ []) (hp : ∀ c ∈ p, 0 ≤ hx c ∧ hx c < 10) : ∃ r', r'.st = 3 ∧ r'.value = cap (Dig.read 10 0 p : Nat) ∧ names r' = [] ∧ run r0 0 (35 :: (p ++ q)) = run r' (1 + p.length) q := by
  cases p with
  | nil => exact absurd rfl hne
  | cons c cs =>
    obtain ⟨a, b⟩ := hp c (by simp)
    obtain ⟨a1, a2, a3⟩ := Agree.dec_of_hx a b
    have h2 : Ref.step r1 c = ({ r1 with st := 3, value := c - 48 }, false, true) := by simp [Ref.step, r1, a1, a2]
    obtain ⟨r', g1, g2, g3, g5⟩ := run_dec cs q { r1 with st := 3, value := c - 48 } 2 (hx c).toNat rfl (by show c - 48 = _; rw [Agree.cap_small (by omega)]; omega) (fun x hx' => hp x (by simp [hx']))
    refine ⟨r', g1, ?_, g3, ?_⟩
    · rw [g2]
      show _ = cap ((Dig.read 10 (0 * 10 + (hx c).toNat) cs : Nat) : Int)
      rw [Nat.zero_mul, Nat.zero_add]
    · rw [run_on step_hash, List.cons_append, run_on h2]
      show run _ ((0 : Int) + 1 + 1) _ = _
      rw [show (0 : Int) + 1 + 1 = 2 from rfl, g5]
      congr 1
      simp only [List.length_cons]
      omega
theorem c_hex (x : Int) (hxx : x = 120 ∨ x = 88) (p q : List Int) (hne : p ≠ []) (hp : ∀ c ∈ p, 0 ≤ hx c ∧ hx c < 16) : ∃ r', r'.st = 4 ∧ r'.value = cap (Dig.read 16 0 p : Nat) ∧ names r' = [] ∧ run r0 0 (35 :: x :: (p ++ q)) = run r' (2 + p.length) q := by
  cases p with
  | nil => exact absurd rfl hne
  | cons c cs =>
    obtain ⟨a, b⟩ := hp c (by simp)
    have h2 : Ref.step r2 c = ({ r2 with st := 4, value := hx c }, false, true) := by simp [Ref.step, r2, a]
    obtain ⟨r', g1, g2, g3, g5⟩ := run_hex cs q { r2 with st := 4, value := hx c } 3 (hx c).toNat rfl (by show hx c = _; rw [Agree.cap_small (by omega)]; omega) (fun x hx' => hp x (by simp [hx']))
    refine ⟨r', g1, ?_, g3, ?_⟩
    · rw [g2]
      show _ = cap ((Dig.read 16 (0 * 16 + (hx c).toNat) cs : Nat) : Int)
      rw [Nat.zero_mul, Nat.zero_add]
    · rw [run_on step_hash, run_on (step_x x hxx), List.cons_append, run_on h2]
      show run _ ((0 : Int) + 1 + 1 + 1) _ = _
      rw [show (0 : Int) + 1 + 1 + 1 = 3 from rfl, g5]
      congr 1
      simp only [List.length_cons]
      omega

theorem stop3 {r : R} (hs : r.st = 3) (i c : Int) (q : List Int) (h : ¬ (48 ≤ c ∧ c ≤ 57)) : run r i (c :: q) = (i, c == 59, r) := run_end (by simp [Ref.step, hs, h])
theorem stop4 {r : R} (hs : r.st = 4) (i c : Int) (q : List Int) (h : hx c < 0) : run r i (c :: q) = (i, c == 59, r) := by
  have h' : ¬ 0 ≤ hx c := by omega
  exact run_end (by simp [Ref.step, hs, h'])

end Run
end Go.Proofs.Qxb6000730a

/-
  charRef.step and ZZCharRefStep: what they make of a byte is 'Ref.step'; ZZCharRefValue; a fresh charRef.
-/
import Derived.Test.Qxb6000730aRefWays
namespace Go.Proofs.Qxb6000730a
open Go.ChangeShapes Go.WideShapes Go.ChangeAt Go.RowKit
namespace Ref
set_option linter.unusedVariables false
set_option linter.unusedSimpArgs false

theorem ne {a b : Int} (h : ¬ a = b) : (a == b) = false := beq_eq_false_iff_ne.2 h
def cap (v : Int) : Int := if v ≤ 1114112 then v else 1114112

/-- What the reader makes of the byte c: the reference behind it; ended; taken. -/
def step (r : R) (c : Int) : R × Bool × Bool :=
  if r.st = 0 then
    if c = 35 then ({ r with st := 1 }, false, true)
    else if nm c = true then ({ r with st := 5, name := put r.name 0 c, n := 1 }, false, true)
    else (r, true, false)
  else if r.st = 1 then
    if 48 ≤ c ∧ c ≤ 57 then ({ r with st := 3, value := c - 48 }, false, true)
    else if c = 120 ∨ c = 88 then ({ r with st := 2 }, false, true)
    else (r, true, false)
  else if r.st = 2 then
    if 0 ≤ hx c then ({ r with st := 4, value := hx c }, false, true) else (r, true, false)
  else if r.st = 3 then
    if 48 ≤ c ∧ c ≤ 57 then ({ r with value := cap (r.value * 10 + (c - 48)) }, false, true) else (r, true, c == 59)
  else if r.st = 4 then
    if 0 ≤ hx c then ({ r with value := cap (r.value * 16 + hx c) }, false, true) else (r, true, c == 59)
  else
    if nm c = true ∧ r.n < 32 then ({ r with name := put r.name r.n c, n := r.n + 1 }, false, true) else (r, true, c == 59)

structure Fit (r : R) : Prop where
  s0 : 0 ≤ r.st
  s5 : r.st ≤ 5
  v0 : 0 ≤ r.value
  v1 : r.value ≤ 1114112
  n1 : r.n ≤ 32

def Steps (b : Nat) (r : R) (c : Int) (w : World) (t : R × Bool × Bool) : Prop :=
  Calls Try.prog 33 #[.pointer (some ⟨b, 0, none⟩), .int .u8 c] w fun e w' => e = .returned (.tuple #[.bool t.2.1, .bool t.2.2]) ∧ Box b t.1 w' ∧ Only b w w'

theorem fin {b : Nat} {r : R} {c : Int} {w : World} {r' : R} {x y : Bool} {s : R × Bool × Bool} (e : s = (r', x, y)) (h : Calls Try.prog 33 #[.pointer (some ⟨b, 0, none⟩), .int .u8 c] w fun e w' => e = .returned (.tuple #[.bool x, .bool y]) ∧ Box b r' w' ∧ Only b w w') : Steps b r c w s := by rw [e]; exact h

theorem step_any (b : Nat) (r : R) (c : Int) (w : World) (hb : Box b r w) (h : Fit r) (h0 : 0 ≤ c) (h1 : c ≤ 255) : Steps b r c w (step r c) := by
  obtain ⟨s0, s5, v0, v1, n1⟩ := h
  have h6 : r.st = 0 ∨ r.st = 1 ∨ r.st = 2 ∨ r.st = 3 ∨ r.st = 4 ∨ r.st = 5 := by omega
  rcases h6 with ht | ht | ht | ht | ht | ht
  · by_cases a : c = 35
    · subst a; exact fin (by simp [step, ht]) (r0_35 b r w hb ht)
    cases hn : nm c with
    | true => exact fin (by simp [step, ht, a, hn]) (r0_name b r c w hb ht h0 h1 (ne a) hn)
    | false => exact fin (by simp [step, ht, a, hn]) (r0_no b r c w hb ht h0 h1 (ne a) hn)
  · by_cases d : 48 ≤ c ∧ c ≤ 57
    · exact fin (by simp [step, ht, d]) (r1_dig b r c w hb ht h0 h1 d.1 d.2)
    by_cases x1 : c = 120
    · subst x1; exact fin (by simp [step, ht]) (r1_120 b r w hb ht)
    by_cases x2 : c = 88
    · subst x2; exact fin (by simp [step, ht]) (r1_88 b r w hb ht)
    by_cases lo : c < 48
    · exact fin (by simp [step, ht, d, x1, x2]) (r1_no_lo b r c w hb ht h0 h1 lo (ne x1) (ne x2))
    · exact fin (by simp [step, ht, d, x1, x2]) (r1_no_hi b r c w hb ht h0 h1 (decide_eq_false (by omega)) (by omega) (ne x1) (ne x2))
  · by_cases hh : 0 ≤ hx c
    · exact fin (by simp [step, ht, hh]) (r2_hex b r c w hb ht h0 h1 hh)
    · exact fin (by simp [step, ht, hh]) (r2_no b r c w hb ht h0 h1 (by omega))
  · by_cases d : 48 ≤ c ∧ c ≤ 57
    · by_cases m : r.value * 10 + (c - 48) ≤ 1114112
      · exact fin (by simp [step, ht, d, cap, m]) (r3_lo b r c w hb ht h0 h1 d.1 d.2 v0 v1 m)
      · exact fin (by simp [step, ht, d, cap, m]) (r3_hi b r c w hb ht h0 h1 d.1 d.2 v0 v1 (by omega))
    by_cases lo : c < 48
    · exact fin (by simp [step, ht, d]) (r3_end_a b r c w hb ht h0 h1 _ rfl lo)
    · exact fin (by simp [step, ht, d]) (r3_end_b b r c w hb ht h0 h1 _ rfl (decide_eq_false (by omega)) (by omega))
  · by_cases hh : 0 ≤ hx c
    · by_cases m : r.value * 16 + hx c ≤ 1114112
      · exact fin (by simp [step, ht, hh, cap, m]) (r4_lo b r c w hb ht h0 h1 hh (hx_le c).2 v0 v1 m)
      · exact fin (by simp [step, ht, hh, cap, m]) (r4_hi b r c w hb ht h0 h1 hh (hx_le c).2 v0 v1 (by omega))
    · exact fin (by simp [step, ht, hh]) (r4_end b r c w hb ht h0 h1 _ rfl (by omega))
  · cases hn : nm c with
    | true =>
      by_cases hl : r.n < 32
      · exact fin (by simp [step, ht, hn, hl]) (r5_name b r c w hb ht h0 h1 hn hl)
      · exact fin (by simp [step, ht, hn, hl]) (r5_full b r c w hb ht h0 h1 _ rfl hn (by omega) (by omega))
    | false => exact fin (by simp [step, ht, hn]) (r5_end b r c w hb ht h0 h1 _ rfl hn)

theorem step_fit {r : R} (h : Fit r) (c : Int) (h0 : 0 ≤ c) : Fit (step r c).1 := by
  obtain ⟨s0, s5, v0, v1, n1⟩ := h
  have hh := hx_le c
  unfold step
  repeat' split
  all_goals constructor
  all_goals first
    | assumption
    | (simp only; omega)
    | (simp only [cap]; split <;> omega)

theorem zzStep (b : Nat) (r : R) (c : Int) (w : World) (hb : Box b r w) (h : Fit r) (h0 : 0 ≤ c) (h1 : c ≤ 255) :
    Calls Try.prog 13 #[.pointer (some ⟨b, 0, none⟩), .int .u8 c] w fun e w' => e = .returned (.tuple #[.bool (step r c).2.1, .bool (step r c).2.2]) ∧ Box b (step r c).1 w' ∧ Only b w w' := by
  have hs := step_any b r c w hb h h0 h1
  generalize step r c = t at hs
  obtain ⟨r', x, y⟩ := t
  simp only [Steps] at hs
  have HS := hs
  go_enter Try.func13, Try.ntmps13
  go_wp2_with (go_at_call 33; refine hs.mono ?_; rintro e w' ⟨rfl, hb1, ho1⟩)
  go_ret2
  exact ⟨rfl, hb1, ho1⟩

theorem zzValue (b : Nat) (r : R) (w : World) (hb : Box b r w) : Calls Try.prog 15 #[.pointer (some ⟨b, 0, none⟩)] w fun e w' => e = .returned (.int .i64 r.value) ∧ w = w' := by
  have h := hb.value
  go_enter Try.func15, Try.ntmps15
  go_wp2
  go_ret
  exact ⟨rfl, rfl⟩

end Ref
end Go.Proofs.Qxb6000730a

/-
  zzFeedRef: a whole list of bytes fed to a fresh charRef.
-/
import Derived.Test.Qxb6000730aDigits
namespace Go.Proofs.Qxb6000730a
open Go.ChangeShapes Go.WideShapes Go.ChangeAt Go.RowKit
namespace Ref
open Bytes
set_option linter.unusedVariables false

/-- A fresh reference. -/
def r0 : R := ⟨0, 0, fun _ => 0, 0⟩
theorem fit0 : Fit r0 := by constructor <;> simp [r0]

/-- The cells of a fresh charRef. -/
def zero26 : Array Value := #[.int .u8 0, .int .i64 0, .int .u8 0, .int .u8 0, .int .u8 0, .int .u8 0, .int .u8 0, .int .u8 0, .int .u8 0, .int .u8 0, .int .u8 0, .int .u8 0, .int .u8 0, .int .u8 0, .int .u8 0, .int .u8 0, .int .u8 0, .int .u8 0, .int .u8 0, .int .u8 0, .int .u8 0, .int .u8 0, .int .u8 0, .int .u8 0, .int .u8 0, .int .u8 0, .int .u8 0, .int .u8 0, .int .u8 0, .int .u8 0, .int .u8 0, .int .u8 0, .int .u8 0, .int .u8 0, .int .i64 0, .int .u8 0, .bool false]

theorem fresh_box {w : World} {b : Nat} (h : w.heap[b]? = some (.cells zero26 26 (0, 0))) : Box b r0 w := by
  have hc := fun j => cell_of_row w b j zero26 26 (0, 0) h
  refine ⟨fun o => frozen_of_row w b o zero26 26 h, (hc _).trans rfl, (hc _).trans rfl, fun j hj => (hc _).trans ?_, (hc _).trans rfl, ⟨_, (hc _).trans rfl⟩, ⟨_, (hc _).trans rfl⟩⟩
  have h32 : j = 0 ∨ j = 1 ∨ j = 2 ∨ j = 3 ∨ j = 4 ∨ j = 5 ∨ j = 6 ∨ j = 7 ∨ j = 8 ∨ j = 9 ∨ j = 10 ∨ j = 11 ∨ j = 12 ∨ j = 13 ∨ j = 14 ∨ j = 15 ∨ j = 16 ∨ j = 17 ∨ j = 18 ∨ j = 19 ∨ j = 20 ∨ j = 21 ∨ j = 22 ∨ j = 23 ∨ j = 24 ∨ j = 25 ∨ j = 26 ∨ j = 27 ∨ j = 28 ∨ j = 29 ∨ j = 30 ∨ j = 31 := by omega
  rcases h32 with rfl | rfl | rfl | rfl | rfl | rfl | rfl | rfl | rfl | rfl | rfl | rfl | rfl | rfl | rfl | rfl | rfl | rfl | rfl | rfl | rfl | rfl | rfl | rfl | rfl | rfl | rfl | rfl | rfl | rfl | rfl | rfl <;> rfl

/-- Fed the bytes one by one, from place i on: where it ended (-1: nowhere), whether that byte was taken, the value. -/
def feed (r : R) (i : Int) : List Int → Int × Bool × Int
  | [] => (-1, false, r.value)
  | c :: cs => if (Ref.step r c).2.1 = true then (i, (Ref.step r c).2.2, (Ref.step r c).1.value) else feed (Ref.step r c).1 (i + 1) cs

set_option maxRecDepth 100000 in
set_option maxHeartbeats 1600000 in
theorem feed_any (B : Nat) (v : Value) (bs : List Int) (w : World) (hown : Own B v bs w) (hne : bs ≠ []) (hr : ∀ c ∈ bs, 0 ≤ c ∧ c ≤ 255) (hlen : bs.length ≤ 100000) :
    Calls Try.prog 19 #[v] w fun e w' => e = .returned (.tuple #[.int .i64 (feed r0 0 bs).1, .bool (feed r0 0 bs).2.1, .int .i64 (feed r0 0 bs).2.2]) ∧ Below w.heap.size w w' := by
  obtain ⟨g, cap, hv, hg1, hg2, hcell⟩ := hown.spot hne
  have HC : Hid (∀ j (hj : j < bs.length), w.cell? ⟨g, j, none⟩ = some (.int .u8 bs[j])) := hcell
  have HR : Hid (∀ c ∈ bs, 0 ≤ c ∧ c ≤ 255) := hr
  clear hcell hr
  subst hv
  clear hown
  obtain ⟨F, hF⟩ : ∃ F, F = feed r0 0 bs := ⟨_, rfl⟩
  rw [← hF]
  obtain ⟨f1, f2, f3⟩ := F
  have HF : Hid ((f1, f2, f3) = feed r0 0 bs) := hF
  clear hF
  go_enter Try.func19, Try.ntmps19
  go_wp2
  go_loopw [6] (fun iv wr => ∃ (k : Nat) (r : R), iv = .int .i64 k ∧ k ≤ bs.length ∧ Box w.heap.size r wr ∧ Fit r ∧ Hid ((f1, f2, f3) = feed r k (bs.drop k)) ∧ Below w.heap.size w wr) (fun iv _ => bs.length - (intOf iv).toNat)
  case atStart => exact ⟨0, r0, rfl, Nat.zero_le _, fresh_box (heap_alloc_new _ _), fit0, HF, (Below.refl _ _).alloc (Nat.le_refl _) _⟩
  case round =>
    obtain ⟨k, r, rfl, hk, hb, hfit, hf, hbel⟩ := hrel
    by_cases hlt : k < bs.length
    · have hc : wr.cell? ⟨g, k, none⟩ = some (.int .u8 bs[k]) := (hbel.cell hg2).trans (HC.out k hlt)
      obtain ⟨c0, c1⟩ := HR.out bs[k] (List.getElem_mem hlt)
      have hf2 := hf.out
      rw [List.drop_eq_getElem_cons hlt, feed] at hf2
      have hs := zzStep w.heap.size r bs[k] wr hb hfit c0 c1
      have hft := step_fit hfit bs[k] c0
      clear hf
      generalize Ref.step r bs[k] = t at hs hft hf2
      obtain ⟨r', x, y⟩ := t
      cases x with
      | true =>
        simp only [if_true, Prod.mk.injEq] at hf2
        obtain ⟨rfl, rfl, rfl⟩ := hf2
        simp only at hs
        clear HF
        go_wp2_with (first | (go_at_call 13; refine hs.mono ?_; rintro e w1 ⟨rfl, hb1, ho1⟩) | (go_at_call 15; refine (zzValue w.heap.size r' _ (by assumption)).mono ?_; rintro e w2 ⟨rfl, rfl⟩))
        go_ret3
        exact ⟨rfl, hbel.trans (ho1.below (Nat.le_refl _))⟩
      | false =>
        simp only [Bool.false_eq_true, if_false] at hf2
        simp only at hs
        have HF2 : Hid ((f1, f2, f3) = feed r' (((k + 1 : Nat) : Int)) (bs.drop (k + 1))) := hf2
        clear hf2
        go_wp2_with (go_at_call 13; refine hs.mono ?_; rintro e w1 ⟨rfl, hb1, ho1⟩)
        go_roundw
        case rel => exact ⟨k + 1, r', by go_num, by omega, hb1, hft, HF2, hbel.trans (ho1.below (Nat.le_refl _))⟩
        case measure => simp [intOf]; omega
    · have hf2 := hf.out
      rw [List.drop_of_length_le (by omega), feed] at hf2
      simp only [Prod.mk.injEq] at hf2
      obtain ⟨rfl, rfl, rfl⟩ := hf2
      clear HF hf
      go_wp2_with (go_at_call 15; refine (zzValue w.heap.size r _ hb).mono ?_; rintro e w2 ⟨rfl, rfl⟩)
      go_ret3
      exact ⟨rfl, hbel⟩
end Ref
end Go.Proofs.Qxb6000730a

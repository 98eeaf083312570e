/-
  The swap script's law where it answers at once: a list too long; scripts of different lengths.
-/
import Derived.Test.Qxb6001722aSwapY
namespace Go.Proofs.Qxb6001722a
open Go.ChangeShapes Go.WideShapes Go.ChangeAt Go.RowKit
namespace Swap
set_option linter.unusedVariables false
section
variable (a0 a1 a2 a3 : Option Addr) (len0 len1 len2 len3 cap0 cap1 cap2 cap3 : Nat) (S T : Nat → ByteArray) (Z Y : Nat → Int) (w : World)
    (h0 : Arg w a0 len0 (str S)) (h1 : Arg w a1 len1 (str T))
include h0 h1

set_option maxRecDepth 100000 in
set_option maxHeartbeats 6400000 in
theorem long0 (l0 : 1024 < len0) : Calls Try.prog 6 #[.slice a0 len0 cap0, .slice a1 len1 cap1, .slice a2 len2 cap2, .slice a3 len3 cap3] w fun e w' => e = .returned (.bool true) ∧ Below w.heap.size w w' := by
  go_enter Try.func6, Try.ntmps6
  go_wp2_with (first | (go_at_call 17; refine (zzBytes a0 a1 a2 a3 len0 len1 len2 len3 cap0 cap1 cap2 cap3 S T w h0 h1).mono ?_; rintro e w' ⟨⟨bb, rfl⟩, hw⟩; replace hw := hw.symm; subst hw))
  all_goals (go_ret; exact ⟨rfl, Below.refl _ _⟩)
set_option maxRecDepth 100000 in
set_option maxHeartbeats 6400000 in
theorem long1 (l0 : len0 ≤ 1024) (l1 : 1024 < len1) : Calls Try.prog 6 #[.slice a0 len0 cap0, .slice a1 len1 cap1, .slice a2 len2 cap2, .slice a3 len3 cap3] w fun e w' => e = .returned (.bool true) ∧ Below w.heap.size w w' := by
  go_enter Try.func6, Try.ntmps6
  go_wp2_with (first | (go_at_call 17; refine (zzBytes a0 a1 a2 a3 len0 len1 len2 len3 cap0 cap1 cap2 cap3 S T w h0 h1).mono ?_; rintro e w' ⟨⟨bb, rfl⟩, hw⟩; replace hw := hw.symm; subst hw))
  all_goals (go_ret; exact ⟨rfl, Below.refl _ _⟩)
set_option maxRecDepth 100000 in
set_option maxHeartbeats 6400000 in
theorem long2 (l0 : len0 ≤ 1024) (l1 : len1 ≤ 1024) (l2 : 4096 < len2) : Calls Try.prog 6 #[.slice a0 len0 cap0, .slice a1 len1 cap1, .slice a2 len2 cap2, .slice a3 len3 cap3] w fun e w' => e = .returned (.bool true) ∧ Below w.heap.size w w' := by
  go_enter Try.func6, Try.ntmps6
  go_wp2_with (first | (go_at_call 17; refine (zzBytes a0 a1 a2 a3 len0 len1 len2 len3 cap0 cap1 cap2 cap3 S T w h0 h1).mono ?_; rintro e w' ⟨⟨bb, rfl⟩, hw⟩; replace hw := hw.symm; subst hw))
  all_goals (go_ret; exact ⟨rfl, Below.refl _ _⟩)
set_option maxRecDepth 100000 in
set_option maxHeartbeats 6400000 in
theorem long3 (l0 : len0 ≤ 1024) (l1 : len1 ≤ 1024) (l2 : len2 ≤ 4096) (l3 : 4096 < len3) : Calls Try.prog 6 #[.slice a0 len0 cap0, .slice a1 len1 cap1, .slice a2 len2 cap2, .slice a3 len3 cap3] w fun e w' => e = .returned (.bool true) ∧ Below w.heap.size w w' := by
  go_enter Try.func6, Try.ntmps6
  go_wp2_with (first | (go_at_call 17; refine (zzBytes a0 a1 a2 a3 len0 len1 len2 len3 cap0 cap1 cap2 cap3 S T w h0 h1).mono ?_; rintro e w' ⟨⟨bb, rfl⟩, hw⟩; replace hw := hw.symm; subst hw))
  all_goals (go_ret; exact ⟨rfl, Below.refl _ _⟩)
set_option maxRecDepth 100000 in
set_option maxHeartbeats 6400000 in
theorem differ (l0 : len0 ≤ 1024) (l1 : len1 ≤ 1024) (l2 : len2 ≤ 4096) (l3 : len3 ≤ 4096) (hne : ¬ (len2 : Int) = (len3 : Int)) : Calls Try.prog 6 #[.slice a0 len0 cap0, .slice a1 len1 cap1, .slice a2 len2 cap2, .slice a3 len3 cap3] w fun e w' => e = .returned (.bool true) ∧ Below w.heap.size w w' := by
  have hd : ((len2 : Int) == (len3 : Int)) = false := beq_eq_false_iff_ne.2 hne
  have hd2 : ¬ len2 = len3 := by omega
  go_enter Try.func6, Try.ntmps6
  go_wp2_with (first | (go_at_call 17; refine (zzBytes a0 a1 a2 a3 len0 len1 len2 len3 cap0 cap1 cap2 cap3 S T w h0 h1).mono ?_; rintro e w' ⟨⟨bb, rfl⟩, hw⟩; replace hw := hw.symm; subst hw))
  all_goals (try (go_ret; exact ⟨rfl, Below.refl _ _⟩))
  go_loop [9, 10] (fun t i => ∃ (t' : Int) (k : Nat), t = .int .i64 t' ∧ i = .int .i64 k ∧ k ≤ len0) (fun _ i => len0 - (intOf i).toNat)
  case atStart => exact ⟨_, 0, rfl, rfl, by omega⟩
  case round =>
    obtain ⟨T0, k, rfl, rfl, hk⟩ := hrel
    by_cases hkl : k < len0
    · obtain ⟨b, off, rfl, hc⟩ := h0.str_at k hkl
      go_wp2
      · go_ret
        exact ⟨rfl, Below.refl _ _⟩
      · go_ret
        exact ⟨rfl, Below.refl _ _⟩
      · go_round
        case rel => exact ⟨_, k + 1, rfl, rfl, by omega⟩
        case measure => simp [intOf]; omega
    · go_wp2
      clear hk hkl
      go_loop [9, 11] (fun t i => ∃ (t' : Int) (k : Nat), t = .int .i64 t' ∧ i = .int .i64 k ∧ k ≤ len1) (fun _ i => len1 - (intOf i).toNat)
      case atStart => exact ⟨_, 0, rfl, rfl, by omega⟩
      case round =>
        obtain ⟨T1, k, rfl, rfl, hk⟩ := hrel
        by_cases hkl : k < len1
        · obtain ⟨b, off, rfl, hc⟩ := h1.str_at k hkl
          go_wp2
          · go_ret
            exact ⟨rfl, Below.refl _ _⟩
          · go_ret
            exact ⟨rfl, Below.refl _ _⟩
          · go_round
            case rel => exact ⟨_, k + 1, rfl, rfl, by omega⟩
            case measure => simp [intOf]; omega
        · go_wp2
          go_ret
          exact ⟨rfl, Below.refl _ _⟩
end
end Swap
end Go.Proofs.Qxb6001722a

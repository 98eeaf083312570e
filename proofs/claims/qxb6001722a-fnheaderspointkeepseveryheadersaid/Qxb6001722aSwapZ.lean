/-
  zzBytes of the swap script: it answers some bool and turns nothing.
-/
import Derived.Test.Qxb6001722aSwapP
namespace Go.Proofs.Qxb6001722a
open Go.ChangeShapes Go.WideShapes Go.ChangeAt Go.RowKit
namespace Swap
set_option linter.unusedVariables false

def str (S : Nat → ByteArray) : Nat → Value := fun q => .string (S q)
def num (Z : Nat → Int) : Nat → Value := fun q => .int .i64 (Z q)

theorem Arg.str_at {w : World} {a : Option Addr} {len : Nat} {S : Nat → ByteArray} (h : Arg w a len (str S)) (p : Nat) (hp : p < len) : ∃ b off, a = some ⟨b, off, none⟩ ∧ w.cell? ⟨b, off + p, none⟩ = some (.string (S p)) := by
  obtain ⟨b, off, e, hc⟩ := h p hp
  exact ⟨b, off, e, hc p hp⟩
theorem Arg.num_at {w : World} {a : Option Addr} {len : Nat} {Z : Nat → Int} (h : Arg w a len (num Z)) (p : Nat) (hp : p < len) : ∃ b off, a = some ⟨b, off, none⟩ ∧ w.cell? ⟨b, off + p, none⟩ = some (.int .i64 (Z p)) := by
  obtain ⟨b, off, e, hc⟩ := h p hp
  exact ⟨b, off, e, hc p hp⟩

/-- The first k numbers of both scripts lie below n. -/
def Inside (Z Y : Nat → Int) (k n : Nat) : Prop := ∀ q, q < k → 0 ≤ Z q ∧ Z q < n ∧ 0 ≤ Y q ∧ Y q < n
theorem Inside.zero (Z Y : Nat → Int) (n : Nat) : Inside Z Y 0 n := fun q hq => by omega
theorem Inside.next {Z Y : Nat → Int} {k n : Nat} (h : Inside Z Y k n) (a : 0 ≤ Z k) (b : Z k < n) (c : 0 ≤ Y k) (d : Y k < n) : Inside Z Y (k + 1) n := by
  intro q hq
  by_cases e : q = k
  · subst e; exact ⟨a, b, c, d⟩
  · exact h q (by omega)

/-- It answered some bool. -/
def Boolish (e : Ending) : Prop := ∃ b, e = .returned (.bool b)
theorem boolish (b : Bool) : Boolish (.returned (.bool b)) := ⟨b, rfl⟩

set_option maxRecDepth 100000 in
set_option maxHeartbeats 3200000 in
theorem zzBytes (a0 a1 a2 a3 : Option Addr) (len0 len1 len2 len3 cap0 cap1 cap2 cap3 : Nat) (S T : Nat → ByteArray) (w : World) (h0 : Arg w a0 len0 (str S)) (h1 : Arg w a1 len1 (str T)) :
    Calls Try.prog 17 #[.slice a0 len0 cap0, .slice a1 len1 cap1, .slice a2 len2 cap2, .slice a3 len3 cap3] w fun e w' => Boolish e ∧ w' = w := by
  go_enter Try.func17, Try.ntmps17
  go_wp2
  all_goals (try (go_ret; exact ⟨boolish _, rfl⟩))
  go_loop [9, 10] (fun t i => ∃ (T : Int) (k : Nat), t = .int .i64 T ∧ i = .int .i64 k ∧ k ≤ len0) (fun _ i => len0 - (intOf i).toNat)
  case atStart => exact ⟨_, 0, rfl, rfl, by omega⟩
  case round =>
    obtain ⟨T0, k, rfl, rfl, hk⟩ := hrel
    by_cases hkl : k < len0
    · obtain ⟨b, off, rfl, hc⟩ := h0.str_at k hkl
      go_wp2
      · go_ret
        exact ⟨boolish _, rfl⟩
      · go_ret
        exact ⟨boolish _, rfl⟩
      · go_round
        case rel => exact ⟨_, k + 1, rfl, rfl, by omega⟩
        case measure => simp [intOf]; omega
    · go_wp2
      all_goals (try (go_ret; exact ⟨boolish _, rfl⟩))
      go_loop [9, 11] (fun t i => ∃ (T : Int) (k : Nat), t = .int .i64 T ∧ i = .int .i64 k ∧ k ≤ len1) (fun _ i => len1 - (intOf i).toNat)
      case atStart => exact ⟨_, 0, rfl, rfl, by omega⟩
      case round =>
        obtain ⟨T1, j, rfl, rfl, hj⟩ := hrel
        by_cases hjl : j < len1
        · obtain ⟨b, off, rfl, hc⟩ := h1.str_at j hjl
          go_wp2
          · go_ret
            exact ⟨boolish _, rfl⟩
          · go_ret
            exact ⟨boolish _, rfl⟩
          · go_round
            case rel => exact ⟨_, j + 1, rfl, rfl, by omega⟩
            case measure => simp [intOf]; omega
        · go_wp2
          all_goals (go_ret; exact ⟨boolish _, rfl⟩)
end Swap
end Go.Proofs.Qxb6001722a

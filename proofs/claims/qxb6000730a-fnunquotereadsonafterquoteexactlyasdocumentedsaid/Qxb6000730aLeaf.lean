/-
  Contracts of the leaves: isSpace, zzIsSpace, lower, inRefName, zzRefNameByte, hexDigit, zzDigitOf.
-/
import Derived.Test.Qxb6000730aRows
import Derived.WalkKit
import Derived.ProofKit
import Derived.OpenShut
import Derived.ShutString
import Derived.Handy
namespace Go.Proofs.Qxb6000730a
open Go.ChangeShapes Go.WideShapes Go.ChangeAt Go.RowKit
namespace Leaf

/-- The white space of the page. -/
def sp (c : Int) : Bool := decide ((9 ≤ c ∧ c ≤ 13) ∨ (28 ≤ c ∧ c ≤ 32) ∨ c = 133 ∨ c = 160)

theorem isSpace_no (c : Int) (w : World) (h0 : 0 ≤ c) (h1 : c ≤ 255) (h : sp c = false) :
    Calls Try.prog 43 #[.int .u8 c] w fun e w' => e = .returned (.bool false) ∧ w' = w := by
  have hn : ¬ ((9 ≤ c ∧ c ≤ 13) ∨ (28 ≤ c ∧ c ≤ 32) ∨ c = 133 ∨ c = 160) := by simpa [sp] using h
  clear h
  have e1 : (c == 133) = false := beq_eq_false_iff_ne.2 (by omega)
  have e2 : (c == 160) = false := beq_eq_false_iff_ne.2 (by omega)
  by_cases a : c < 9
  · clear hn
    go_enter Try.func43, Try.ntmps43
    go_wp2
    go_ret
    exact ⟨rfl, rfl⟩
  · by_cases a2 : c < 28
    · have a3 : decide (c ≤ 13) = false := decide_eq_false (by omega)
      clear hn
      go_enter Try.func43, Try.ntmps43
      go_wp2
      go_ret
      exact ⟨rfl, rfl⟩
    · have a4 : decide (c ≤ 13) = false := decide_eq_false (by omega)
      have a3 : decide (c ≤ 32) = false := decide_eq_false (by omega)
      clear hn
      go_enter Try.func43, Try.ntmps43
      go_wp2
      go_ret
      exact ⟨rfl, rfl⟩

theorem isSpace_yes (c : Int) (w : World) (h0 : 0 ≤ c) (h1 : c ≤ 255) (h : sp c = true) :
    Calls Try.prog 43 #[.int .u8 c] w fun e w' => e = .returned (.bool true) ∧ w' = w := by
  have hn : (9 ≤ c ∧ c ≤ 13) ∨ (28 ≤ c ∧ c ≤ 32) ∨ c = 133 ∨ c = 160 := by simpa [sp] using h
  clear h
  rcases hn with ⟨a, b⟩ | ⟨a, b⟩ | rfl | rfl
  all_goals
    go_enter Try.func43, Try.ntmps43
    go_wp2
    go_ret
    exact ⟨rfl, rfl⟩

/-- Of lower the law asks nothing but that it answers some byte. -/
theorem lower_any (c : Int) (w : World) (h0 : 0 ≤ c) (h1 : c ≤ 255) :
    Calls Try.prog 45 #[.int .u8 c] w fun e w' => (∃ v : Int, e = .returned (.int .u8 v)) ∧ w' = w := by
  by_cases a : 65 ≤ c ∧ c ≤ 90
  · obtain ⟨a1, a2⟩ := a
    go_enter Try.func45, Try.ntmps45
    go_wp2
    go_ret
    exact ⟨⟨_, rfl⟩, rfl⟩
  · by_cases b : c < 65
    · go_enter Try.func45, Try.ntmps45
      go_wp2
      go_ret
      exact ⟨⟨_, rfl⟩, rfl⟩
    · have b2 : decide (c ≤ 90) = false := decide_eq_false (by omega)
      clear a
      go_enter Try.func45, Try.ntmps45
      go_wp2
      go_ret
      exact ⟨⟨_, rfl⟩, rfl⟩

end Leaf
end Go.Proofs.Qxb6000730a

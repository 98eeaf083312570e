/-
  The head of the dump, read once: 'mayEnter', 'liftsFinal', 'make' (each asks for the signs of a long text: by the kernel alone, in one piece, they cost ten gigabytes).
-/
import Derived.Test.Qxb6000730aRows
import Derived.ProofKit
namespace Go.Proofs.Qxb6000730a
namespace Head

/-- The head's signs, as numbers. -/
def nums : List Nat := [104, 97, 114, 110, 101, 115, 115, 32, 57, 97, 55, 50, 97, 48, 98, 100, 50, 102, 51, 54, 51, 57, 55, 52, 48, 53, 101, 98, 50, 101, 54, 50, 51, 99, 97, 48, 100, 55, 100, 101, 56, 102, 57, 50, 97, 54, 56, 53, 53, 99, 99, 55, 98, 102, 98, 51, 50, 55, 100, 100, 100, 53, 100, 54, 99, 98, 52, 55, 54, 97, 52, 98, 32, 99, 117, 116, 32, 97, 116, 32, 101, 120, 97, 109, 112, 108, 101, 46, 99, 111, 109, 47, 112, 97, 108, 105, 109, 112, 115, 101, 115, 116, 47, 112, 97, 108, 105, 109, 112, 115, 101, 115, 116, 47, 122, 122, 108, 97, 119, 115, 95, 116, 111, 107, 101, 110, 95, 98, 49, 46, 70, 110, 67, 104, 97, 114, 82, 101, 102, 83, 116, 101, 112, 77, 97, 116, 99, 104, 101, 115, 82, 101, 102, 101, 114, 101, 110, 99, 101, 77, 111, 100, 101, 108, 32, 101, 120, 97, 109, 112, 108, 101, 46, 99, 111, 109, 47, 112, 97, 108, 105, 109, 112, 115, 101, 115, 116, 47, 112, 97, 108, 105, 109, 112, 115, 101, 115, 116, 47, 122, 122, 108, 97, 119, 115, 95, 116, 111, 107, 101, 110, 95, 98, 49, 46, 70, 110, 67, 104, 97, 114, 82, 101, 102, 83, 116, 101, 112, 75, 101, 101, 112, 115, 73, 116, 115, 66, 111, 117, 110, 100, 115, 32, 101, 120, 97, 109, 112, 108, 101, 46, 99, 111, 109, 47, 112, 97, 108, 105, 109, 112, 115, 101, 115, 116, 47, 112, 97, 108, 105, 109, 112, 115, 101, 115, 116, 47, 122, 122, 108, 97, 119, 115, 95, 116, 111, 107, 101, 110, 95, 98, 49, 46, 70, 110, 67, 104, 97, 114, 82, 101, 102, 68, 101, 99, 105, 109, 97, 108, 65, 110, 100, 72, 101, 120, 65, 103, 114, 101, 101, 32, 101, 120, 97, 109, 112, 108, 101, 46, 99, 111, 109, 47, 112, 97, 108, 105, 109, 112, 115, 101, 115, 116, 47, 112, 97, 108, 105, 109, 112, 115, 101, 115, 116, 47, 122, 122, 108, 97, 119, 115, 95, 116, 111, 107, 101, 110, 95, 98, 49, 46, 70, 110, 84, 97, 103, 83, 116, 101, 112, 69, 110, 100, 115, 79, 110, 108, 121, 65, 116, 71, 84, 65, 110, 100, 70, 97, 105, 108, 115, 79, 110, 108, 121, 65, 116, 78, 85, 76, 32, 101, 120, 97, 109, 112, 108, 101, 46, 99, 111, 109, 47, 112, 97, 108, 105, 109, 112, 115, 101, 115, 116, 47, 112, 97, 108, 105, 109, 112, 115, 101, 115, 116, 47, 122, 122, 108, 97, 119, 115, 95, 116, 111, 107, 101, 110, 95, 98, 49, 46, 70, 110, 84, 97, 103, 83, 116, 101, 112, 87, 105, 116, 104, 111, 117, 116, 81, 117, 111, 116, 101, 115, 69, 110, 100, 115, 65, 116, 70, 105, 114, 115, 116, 71, 84, 32, 101, 120, 97, 109, 112, 108, 101, 46, 99, 111, 109, 47, 112, 97, 108, 105, 109, 112, 115, 101, 115, 116, 47, 112, 97, 108, 105, 109, 112, 115, 101, 115, 116, 47, 122, 122, 108, 97, 119, 115, 95, 116, 111, 107, 101, 110, 95, 98, 49, 46, 70, 110, 84, 97, 103, 83, 116, 101, 112, 81, 117, 111, 116, 101, 100, 86, 97, 108, 117, 101, 72, 105, 100, 101, 115, 71, 84, 32, 101, 120, 97, 109, 112, 108, 101, 46, 99, 111, 109, 47, 112, 97, 108, 105, 109, 112, 115, 101, 115, 116, 47, 112, 97, 108, 105, 109, 112, 115, 101, 115, 116, 47, 122, 122, 108, 97, 119, 115, 95, 116, 111, 107, 101, 110, 95, 98, 49, 46, 70, 110, 85, 110, 113, 117, 111, 116, 101, 82, 101, 97, 100, 115, 79, 110, 65, 102, 116, 101, 114, 81, 117, 111, 116, 101, 69, 120, 97, 99, 116, 108, 121, 65, 115, 68, 111, 99, 117, 109, 101, 110, 116, 101, 100, 32, 101, 120, 97, 109, 112, 108, 101, 46, 99, 111, 109, 47, 112, 97, 108, 105, 109, 112, 115, 101, 115, 116, 47, 112, 97, 108, 105, 109, 112, 115, 101, 115, 116, 47, 122, 122, 108, 97, 119, 115, 95, 116, 111, 107, 101, 110, 95, 98, 49, 46, 70, 110, 85, 110, 113, 117, 111, 116, 101, 82, 101, 102, 117, 115, 101, 115, 65, 83, 101, 99, 111, 110, 100, 84, 105, 109, 101, 32, 101, 120, 97, 109, 112, 108, 101, 46, 99, 111, 109, 47, 112, 97, 108, 105, 109, 112, 115, 101, 115, 116, 47, 112, 97, 108, 105, 109, 112, 115, 101, 115, 116, 47, 122, 122, 108, 97, 119, 115, 95, 116, 111, 107, 101, 110, 95, 98, 49, 46, 70, 110, 85, 110, 113, 117, 111, 116, 101, 82, 101, 102, 117, 115, 101, 115, 87, 104, 101, 110, 82, 101, 97, 100, 76, 111, 110, 103]
def signs : List Char := nums.map Char.ofNat

theorem io : Try.prog.initOrder = String.ofList signs := by kernel_rfl
theorem toList : Try.prog.initOrder.toList = signs := by rw [io, String.toList_ofList]

theorem strip (rest : List (List Char)) : stripLifts liftWords ("cut".toList :: rest) = ([], "cut".toList :: rest) := by rfl

theorem make_of (P : Program) (rest : List (List Char)) (h : behindMainWord (wordsSigns P.initOrder.toList) = "cut".toList :: rest) : P.make = some .cut := by
  unfold Program.make
  rw [h]
  rfl
theorem lifts_of (P : Program) (rest : List (List Char)) (h : behindMainWord (wordsSigns P.initOrder.toList) = "cut".toList :: rest) : P.liftsFinal = false := by
  unfold Program.liftsFinal Program.headLifts
  rw [h, strip]
  rfl
theorem may_of (P : Program) (rest : List (List Char)) (h : behindMainWord (wordsSigns P.initOrder.toList) = "cut".toList :: rest) (hl : P.laysLater = false) (hr : P.bearsReflect = false) (hd : P.doorFits [] = true) : P.mayEnter = true := by
  unfold Program.mayEnter
  rw [h]
  simp only [strip, hl, hr, hd]
  rfl

theorem first : (behindMainWord (wordsSigns signs)).head? = some "cut".toList := by kernel_rfl
theorem words : ∃ rest, behindMainWord (wordsSigns Try.prog.initOrder.toList) = "cut".toList :: rest := by
  rw [toList]
  have h := first
  generalize behindMainWord (wordsSigns signs) = l at h
  cases l with
  | nil => cases h
  | cons c r => exact ⟨r, by rw [Option.some.inj h]⟩

theorem later : Try.prog.laysLater = false := by kernel_rfl
theorem reflects : Try.prog.bearsReflect = false := by kernel_rfl
theorem door : Try.prog.doorFits [] = true := by kernel_rfl

theorem may : Try.prog.mayEnter = true := by
  obtain ⟨rest, h⟩ := words
  exact may_of Try.prog rest h later reflects door
theorem lifts : Try.prog.liftsFinal = false := by
  obtain ⟨rest, h⟩ := words
  exact lifts_of Try.prog rest h
theorem make : Try.prog.make = some .cut := by
  obtain ⟨rest, h⟩ := words
  exact make_of Try.prog rest h

end Head
end Go.Proofs.Qxb6000730a

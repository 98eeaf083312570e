/-
  The head of the dump, read once: 'mayEnter', 'liftsFinal', 'make' (each asks for the signs of a long text: by the kernel alone, in one piece, they cost ten gigabytes).
-/
import Derived.Test.Qxb6001722aRows
import Derived.ProofKit
namespace Go.Proofs.Qxb6001722a
namespace Head

/-- The head's signs, as numbers. -/
def nums : List Nat := [104, 97, 114, 110, 101, 115, 115, 32, 48, 97, 50, 56, 56, 52, 50, 48, 56, 101, 100, 48, 54, 51, 101, 100, 53, 101, 48, 98, 100, 98, 50, 97, 50, 53, 52, 99, 100, 54, 53, 55, 56, 100, 48, 54, 102, 56, 49, 98, 49, 54, 98, 50, 48, 99, 97, 53, 52, 53, 98, 54, 99, 97, 97, 99, 99, 100, 102, 49, 101, 97, 57, 102, 32, 99, 117, 116, 32, 97, 116, 32, 101, 120, 97, 109, 112, 108, 101, 46, 99, 111, 109, 47, 103, 97, 114, 109, 47, 103, 97, 114, 109, 47, 122, 122, 108, 97, 119, 115, 95, 105, 110, 116, 101, 114, 110, 97, 108, 95, 106, 115, 111, 110, 99, 104, 101, 99, 107, 95, 103, 49, 46, 70, 110, 75, 105, 110, 100, 65, 116, 82, 101, 102, 117, 115, 101, 115, 78, 111, 110, 79, 112, 101, 110, 101, 114, 115, 32, 101, 120, 97, 109, 112, 108, 101, 46, 99, 111, 109, 47, 103, 97, 114, 109, 47, 103, 97, 114, 109, 47, 122, 122, 108, 97, 119, 115, 95, 105, 110, 116, 101, 114, 110, 97, 108, 95, 106, 115, 111, 110, 99, 104, 101, 99, 107, 95, 103, 49, 46, 70, 110, 74, 111, 105, 110, 65, 115, 115, 111, 99, 105, 97, 116, 105, 118, 101, 79, 118, 101, 114, 78, 111, 110, 69, 109, 112, 116, 121, 77, 105, 100, 100, 108, 101, 32, 101, 120, 97, 109, 112, 108, 101, 46, 99, 111, 109, 47, 103, 97, 114, 109, 47, 103, 97, 114, 109, 47, 122, 122, 108, 97, 119, 115, 95, 105, 110, 116, 101, 114, 110, 97, 108, 95, 106, 115, 111, 110, 99, 104, 101, 99, 107, 95, 103, 49, 46, 70, 110, 72, 101, 97, 100, 101, 114, 115, 80, 111, 105, 110, 116, 75, 101, 101, 112, 115, 69, 118, 101, 114, 121, 72, 101, 97, 100, 101, 114, 32, 101, 120, 97, 109, 112, 108, 101, 46, 99, 111, 109, 47, 103, 97, 114, 109, 47, 103, 97, 114, 109, 47, 122, 122, 108, 97, 119, 115, 95, 105, 110, 116, 101, 114, 110, 97, 108, 95, 106, 115, 111, 110, 99, 104, 101, 99, 107, 95, 103, 50, 46, 70, 110, 83, 119, 97, 112, 83, 99, 114, 105, 112, 116, 77, 111, 118, 101, 115, 80, 97, 105, 114, 115, 65, 110, 100, 85, 110, 100, 111, 101, 115, 32, 101, 120, 97, 109, 112, 108, 101, 46, 99, 111, 109, 47, 103, 97, 114, 109, 47, 103, 97, 114, 109, 47, 122, 122, 108, 97, 119, 115, 95, 105, 110, 116, 101, 114, 110, 97, 108, 95, 106, 115, 111, 110, 99, 104, 101, 99, 107, 95, 103, 49, 46, 70, 110, 83, 116, 97, 99, 107, 80, 111, 112, 71, 105, 118, 101, 115, 66, 97, 99, 107, 84, 104, 101, 80, 117, 115, 104, 101, 100, 73, 110, 79, 114, 100, 101, 114]
def signs : List Char := nums.map Char.ofNat

theorem io : Try.prog.initOrder = String.ofList signs := by kernel_rfl
theorem toList : Try.prog.initOrder.toList = signs := by rw [io, String.toList_ofList]

theorem strip (rest : List (List Char)) : stripLifts liftWords ("cut".toList :: rest) = ([], "cut".toList :: rest) := by rfl

theorem make_of (P : Program) (rest : List (List Char)) (h : behindMainWord (wordsSigns P.initOrder.toList) = "cut".toList :: rest) : P.make = some .cut := by
  unfold Program.make
  rw [h]
  rfl
theorem lifts_of (P : Program) (rest : List (List Char)) (h : behindMainWord (wordsSigns P.initOrder.toList) = "cut".toList :: rest) : P.liftsFinal = false := by
  unfold Program.liftsFinal Program.headLifts
  rw [h, strip]
  rfl
theorem may_of (P : Program) (rest : List (List Char)) (h : behindMainWord (wordsSigns P.initOrder.toList) = "cut".toList :: rest) (hl : P.laysLater = false) (hr : P.bearsReflect = false) (hd : P.doorFits [] = true) : P.mayEnter = true := by
  unfold Program.mayEnter
  rw [h]
  simp only [strip, hl, hr, hd]
  rfl

theorem first : (behindMainWord (wordsSigns signs)).head? = some "cut".toList := by kernel_rfl
theorem words : ∃ rest, behindMainWord (wordsSigns Try.prog.initOrder.toList) = "cut".toList :: rest := by
  rw [toList]
  have h := first
  generalize behindMainWord (wordsSigns signs) = l at h
  cases l with
  | nil => cases h
  | cons c r => exact ⟨r, by rw [Option.some.inj h]⟩

theorem later : Try.prog.laysLater = false := by kernel_rfl
theorem reflects : Try.prog.bearsReflect = false := by kernel_rfl
theorem door : Try.prog.doorFits [] = true := by kernel_rfl

theorem may : Try.prog.mayEnter = true := by
  obtain ⟨rest, h⟩ := words
  exact may_of Try.prog rest h later reflects door
theorem lifts : Try.prog.liftsFinal = false := by
  obtain ⟨rest, h⟩ := words
  exact lifts_of Try.prog rest h
theorem make : Try.prog.make = some .cut := by
  obtain ⟨rest, h⟩ := words
  exact make_of Try.prog rest h

end Head
end Go.Proofs.Qxb6001722a

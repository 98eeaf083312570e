/-
  The leaves of the character references: inRefName, zzRefNameByte, hexDigit; the plain reader 'Ref.step'; its cells.
-/
import Derived.Test.Qxb6000730aTag
import Derived.Deep.QuietTactic
import Derived.BigQuiet
namespace Go.Proofs.Qxb6000730a
open Go.ChangeShapes Go.WideShapes Go.ChangeAt Go.RowKit
namespace Ref
set_option linter.unusedVariables false

/-- The bytes that may stand in a reference's name. -/
def nm (c : Int) : Bool := decide (c ≠ 9 ∧ c ≠ 10 ∧ c ≠ 12 ∧ c ≠ 32 ∧ c ≠ 60 ∧ c ≠ 38 ∧ c ≠ 35 ∧ c ≠ 59)
/-- The value of a hexadecimal digit; -1 where it is none. -/
def hx (c : Int) : Int := if 48 ≤ c ∧ c ≤ 57 then c - 48 else if 97 ≤ c ∧ c ≤ 102 then c - 87 else if 65 ≤ c ∧ c ≤ 70 then c - 55 else -1

theorem hx_le (c : Int) : -1 ≤ hx c ∧ hx c ≤ 15 := by unfold hx; split; omega; split; omega; split <;> omega

theorem inName_yes (c : Int) (w : World) (h : nm c = true) : Calls Try.prog 40 #[.int .u8 c] w fun e w' => e = .returned (.bool true) ∧ w = w' := by
  have h' : c ≠ 9 ∧ c ≠ 10 ∧ c ≠ 12 ∧ c ≠ 32 ∧ c ≠ 60 ∧ c ≠ 38 ∧ c ≠ 35 ∧ c ≠ 59 := by simpa [nm] using h
  obtain ⟨a1, a2, a3, a4, a5, a6, a7, a8⟩ := h'
  have b1 : (c == 9) = false := beq_eq_false_iff_ne.2 a1
  have b2 : (c == 10) = false := beq_eq_false_iff_ne.2 a2
  have b3 : (c == 12) = false := beq_eq_false_iff_ne.2 a3
  have b4 : (c == 32) = false := beq_eq_false_iff_ne.2 a4
  have b5 : (c == 60) = false := beq_eq_false_iff_ne.2 a5
  have b6 : (c == 38) = false := beq_eq_false_iff_ne.2 a6
  have b7 : (c == 35) = false := beq_eq_false_iff_ne.2 a7
  have b8 : (c == 59) = false := beq_eq_false_iff_ne.2 a8
  clear a1 a2 a3 a4 a5 a6 a7 a8 h
  go_enter Try.func40, Try.ntmps40
  go_wp2
  go_ret
  exact ⟨rfl, rfl⟩
theorem inName_no (c : Int) (w : World) (h : nm c = false) : Calls Try.prog 40 #[.int .u8 c] w fun e w' => e = .returned (.bool false) ∧ w = w' := by
  have h' : c = 9 ∨ c = 10 ∨ c = 12 ∨ c = 32 ∨ c = 60 ∨ c = 38 ∨ c = 35 ∨ c = 59 := by
    have h2 : ¬ (c ≠ 9 ∧ c ≠ 10 ∧ c ≠ 12 ∧ c ≠ 32 ∧ c ≠ 60 ∧ c ≠ 38 ∧ c ≠ 35 ∧ c ≠ 59) := of_decide_eq_false h
    omega
  clear h
  rcases h' with rfl | rfl | rfl | rfl | rfl | rfl | rfl | rfl
  all_goals
    go_enter Try.func40, Try.ntmps40
    go_wp2
    go_ret
    exact ⟨rfl, rfl⟩

theorem zzName_yes (c : Int) (w : World) (h : nm c = true) : Calls Try.prog 34 #[.int .u8 c] w fun e w' => e = .returned (.bool true) ∧ w = w' := by
  have h' : c ≠ 9 ∧ c ≠ 10 ∧ c ≠ 12 ∧ c ≠ 32 ∧ c ≠ 60 ∧ c ≠ 38 ∧ c ≠ 35 ∧ c ≠ 59 := by simpa [nm] using h
  obtain ⟨a1, a2, a3, a4, a5, a6, a7, a8⟩ := h'
  have b1 : (c == 9) = false := beq_eq_false_iff_ne.2 a1
  have b2 : (c == 10) = false := beq_eq_false_iff_ne.2 a2
  have b3 : (c == 12) = false := beq_eq_false_iff_ne.2 a3
  have b4 : (c == 32) = false := beq_eq_false_iff_ne.2 a4
  have b5 : (c == 60) = false := beq_eq_false_iff_ne.2 a5
  have b6 : (c == 38) = false := beq_eq_false_iff_ne.2 a6
  have b7 : (c == 35) = false := beq_eq_false_iff_ne.2 a7
  have b8 : (c == 59) = false := beq_eq_false_iff_ne.2 a8
  clear a1 a2 a3 a4 a5 a6 a7 a8 h
  go_enter Try.func34, Try.ntmps34
  go_wp2
  go_ret
  exact ⟨rfl, rfl⟩
theorem zzName_no (c : Int) (w : World) (h : nm c = false) : Calls Try.prog 34 #[.int .u8 c] w fun e w' => e = .returned (.bool false) ∧ w = w' := by
  have h' : c = 9 ∨ c = 10 ∨ c = 12 ∨ c = 32 ∨ c = 60 ∨ c = 38 ∨ c = 35 ∨ c = 59 := by
    have h2 : ¬ (c ≠ 9 ∧ c ≠ 10 ∧ c ≠ 12 ∧ c ≠ 32 ∧ c ≠ 60 ∧ c ≠ 38 ∧ c ≠ 35 ∧ c ≠ 59) := of_decide_eq_false h
    omega
  clear h
  rcases h' with rfl | rfl | rfl | rfl | rfl | rfl | rfl | rfl
  all_goals
    go_enter Try.func34, Try.ntmps34
    go_wp2
    go_ret
    exact ⟨rfl, rfl⟩

theorem ret_pair {k : IntKind} {a b : Int} {x : Bool} (h : a = b) : Ending.returned (.tuple #[.int k a, .bool x]) = .returned (.tuple #[.int k b, .bool x]) := by rw [h]

theorem hex_yes (c : Int) (w : World) (h0 : 0 ≤ c) (h1 : c ≤ 255) (h : 0 ≤ hx c) : Calls Try.prog 41 #[.int .u8 c] w fun e w' => e = .returned (.tuple #[.int .i64 (hx c), .bool true]) ∧ w = w' := by
  have h' : (48 ≤ c ∧ c ≤ 57) ∨ (97 ≤ c ∧ c ≤ 102) ∨ (65 ≤ c ∧ c ≤ 70) := by
    unfold hx at h
    split at h; omega; split at h; omega; split at h <;> omega
  clear h
  rcases h' with ⟨a, b⟩ | ⟨a, b⟩ | ⟨a, b⟩
  · have e : c - 48 = hx c := by unfold hx; rw [if_pos ⟨a, b⟩]
    have E : Hid (c - 48 = hx c) := e
    clear e
    go_enter Try.func41, Try.ntmps41
    go_wp2
    go_ret2
    exact ⟨ret_pair E.out, rfl⟩
  · have e : c - 97 + 10 = hx c := by unfold hx; rw [if_neg (by omega), if_pos ⟨a, b⟩]; omega
    have E : Hid (c - 97 + 10 = hx c) := e
    have d1 : decide (c ≤ 57) = false := decide_eq_false (by omega)
    clear e
    go_enter Try.func41, Try.ntmps41
    go_wp2
    go_ret2
    exact ⟨ret_pair E.out, rfl⟩
  · have e : c - 65 + 10 = hx c := by unfold hx; rw [if_neg (by omega), if_neg (by omega), if_pos ⟨a, b⟩]; omega
    have E : Hid (c - 65 + 10 = hx c) := e
    have d1 : decide (c ≤ 57) = false := decide_eq_false (by omega)
    clear e
    go_enter Try.func41, Try.ntmps41
    go_wp2
    go_ret2
    exact ⟨ret_pair E.out, rfl⟩

theorem hex_no (c : Int) (w : World) (h0 : 0 ≤ c) (h1 : c ≤ 255) (h : hx c < 0) : Calls Try.prog 41 #[.int .u8 c] w fun e w' => e = .returned (.tuple #[.int .i64 0, .bool false]) ∧ w = w' := by
  have h' : ¬ (48 ≤ c ∧ c ≤ 57) ∧ ¬ (97 ≤ c ∧ c ≤ 102) ∧ ¬ (65 ≤ c ∧ c ≤ 70) := by
    unfold hx at h
    split at h; omega; split at h; omega; split at h <;> omega
  clear h
  by_cases a : c < 48
  · clear h'
    go_enter Try.func41, Try.ntmps41
    go_wp2
    go_ret2
    exact ⟨rfl, rfl⟩
  have d1 : decide (c ≤ 57) = false := decide_eq_false (by omega)
  by_cases a2 : c < 65
  · clear h'
    go_enter Try.func41, Try.ntmps41
    go_wp2
    go_ret2
    exact ⟨rfl, rfl⟩
  have d2 : decide (c ≤ 70) = false := decide_eq_false (by omega)
  by_cases a3 : c < 97
  · clear h'
    go_enter Try.func41, Try.ntmps41
    go_wp2
    go_ret2
    exact ⟨rfl, rfl⟩
  have d3 : decide (c ≤ 102) = false := decide_eq_false (by omega)
  clear h'
  go_enter Try.func41, Try.ntmps41
  go_wp2
  go_ret2
  exact ⟨rfl, rfl⟩

/-- What a charRef holds, as far as its reader goes by it. -/
structure R where
  st : Int
  value : Int
  name : Nat → Int
  n : Nat

/-- Block b holds the reference r. -/
structure Box (b : Nat) (r : R) (w : World) : Prop where
  free : ∀ o, w.frozen? ⟨b, o, none⟩ = false
  st : w.cell? ⟨b, 0, none⟩ = some (.int .u8 r.st)
  value : w.cell? ⟨b, 1, none⟩ = some (.int .i64 r.value)
  name : ∀ j, j < 32 → w.cell? ⟨b, 2 + j, none⟩ = some (.int .u8 (r.name j))
  n : w.cell? ⟨b, 34, none⟩ = some (.int .i64 r.n)
  x : ∃ v, w.cell? ⟨b, 35, none⟩ = some (.int .u8 v)
  semi : ∃ v, w.cell? ⟨b, 36, none⟩ = some (.bool v)

def put (f : Nat → Int) (k : Nat) (c : Int) : Nat → Int := fun j => if j = k then c else f j

theorem Box.set_st {b : Nat} {r : R} {w : World} (h : Box b r w) (x : Int) : Box b { r with st := x } (w.setCell ⟨b, 0, none⟩ (.int .u8 x)) :=
  ⟨fun o => by simpa using h.free o, World.cell?_setCell_same _ _ _ h.st, (Tag.other (by omega)).trans h.value, fun j hj => (Tag.other (by omega)).trans (h.name j hj), (Tag.other (by omega)).trans h.n,
    by obtain ⟨u, hu⟩ := h.x; exact ⟨u, (Tag.other (by omega)).trans hu⟩, by obtain ⟨u, hu⟩ := h.semi; exact ⟨u, (Tag.other (by omega)).trans hu⟩⟩
theorem Box.set_value {b : Nat} {r : R} {w : World} (h : Box b r w) (x : Int) : Box b { r with value := x } (w.setCell ⟨b, 1, none⟩ (.int .i64 x)) :=
  ⟨fun o => by simpa using h.free o, (Tag.other (by omega)).trans h.st, World.cell?_setCell_same _ _ _ h.value, fun j hj => (Tag.other (by omega)).trans (h.name j hj), (Tag.other (by omega)).trans h.n,
    by obtain ⟨u, hu⟩ := h.x; exact ⟨u, (Tag.other (by omega)).trans hu⟩, by obtain ⟨u, hu⟩ := h.semi; exact ⟨u, (Tag.other (by omega)).trans hu⟩⟩
theorem Box.set_n {b : Nat} {r : R} {w : World} (h : Box b r w) (x : Nat) : Box b { r with n := x } (w.setCell ⟨b, 34, none⟩ (.int .i64 x)) :=
  ⟨fun o => by simpa using h.free o, (Tag.other (by omega)).trans h.st, (Tag.other (by omega)).trans h.value, fun j hj => (Tag.other (by omega)).trans (h.name j hj), World.cell?_setCell_same _ _ _ h.n,
    by obtain ⟨u, hu⟩ := h.x; exact ⟨u, (Tag.other (by omega)).trans hu⟩, by obtain ⟨u, hu⟩ := h.semi; exact ⟨u, (Tag.other (by omega)).trans hu⟩⟩
theorem Box.set_x {b : Nat} {r : R} {w : World} (h : Box b r w) (x : Int) : Box b r (w.setCell ⟨b, 35, none⟩ (.int .u8 x)) :=
  ⟨fun o => by simpa using h.free o, (Tag.other (by omega)).trans h.st, (Tag.other (by omega)).trans h.value, fun j hj => (Tag.other (by omega)).trans (h.name j hj), (Tag.other (by omega)).trans h.n,
    by obtain ⟨u, hu⟩ := h.x; exact ⟨x, World.cell?_setCell_same _ _ _ hu⟩, by obtain ⟨u, hu⟩ := h.semi; exact ⟨u, (Tag.other (by omega)).trans hu⟩⟩
theorem Box.set_semi {b : Nat} {r : R} {w : World} (h : Box b r w) (x : Bool) : Box b r (w.setCell ⟨b, 36, none⟩ (.bool x)) :=
  ⟨fun o => by simpa using h.free o, (Tag.other (by omega)).trans h.st, (Tag.other (by omega)).trans h.value, fun j hj => (Tag.other (by omega)).trans (h.name j hj), (Tag.other (by omega)).trans h.n,
    by obtain ⟨u, hu⟩ := h.x; exact ⟨u, (Tag.other (by omega)).trans hu⟩, by obtain ⟨u, hu⟩ := h.semi; exact ⟨x, World.cell?_setCell_same _ _ _ hu⟩⟩
theorem Box.set_name {b : Nat} {r : R} {w : World} (h : Box b r w) (k : Nat) (hk : k < 32) (c : Int) : Box b { r with name := put r.name k c } (w.setCell ⟨b, 2 + k, none⟩ (.int .u8 c)) :=
  ⟨fun o => by simpa using h.free o, (Tag.other (by omega)).trans h.st, (Tag.other (by omega)).trans h.value, fun j hj => by
      by_cases e : j = k
      · subst e
        rw [World.cell?_setCell_same _ _ _ (h.name j hj)]
        simp [put]
      · rw [Tag.other (by omega), h.name j hj]
        simp [put, e], (Tag.other (by omega)).trans h.n,
    by obtain ⟨u, hu⟩ := h.x; exact ⟨u, (Tag.other (by omega)).trans hu⟩, by obtain ⟨u, hu⟩ := h.semi; exact ⟨u, (Tag.other (by omega)).trans hu⟩⟩
theorem Box.drew {b : Nat} {r : R} {w : World} (h : Box b r w) : Box b r w.drew := ⟨h.free, h.st, h.value, h.name, h.n, h.x, h.semi⟩

theorem end_any (b : Nat) (r : R) (c : Int) (v : Bool) (w : World) (hb : Box b r w) (hc : (c == 59) = v) : Calls Try.prog 42 #[.pointer (some ⟨b, 0, none⟩), .int .u8 c] w fun e w' => e = .returned (.tuple #[.bool true, .bool v]) ∧ Box b r w' ∧ Only b w w' := by
  have hf := hb.free
  obtain ⟨u, hu⟩ := hb.semi
  go_enter Try.func42, Try.ntmps42
  go_wp2
  go_region
  all_goals (try go_wp2)
  all_goals
    go_ret2
    exact ⟨rfl, (hb.set_semi _).drew, ((Only.refl _ _).set _ _).drew⟩

end Ref
end Go.Proofs.Qxb6000730a

/-
  Join by its contract; FnJoinAssociativeOverNonEmptyMiddle: the walk.
-/
import Derived.Test.Qxb6001722aRows
import Derived.WalkKit
import Derived.ProofKit
import Derived.OpenShut
import Derived.ShutString
import Derived.Handy
import Derived.WalkSpells
namespace Go.Proofs.Qxb6001722a
open Go.ChangeShapes Go.WideShapes Go.ChangeAt Go.RowKit
namespace Join
set_option linter.unusedVariables false

def dot : ByteArray := ⟨#[46]⟩

theorem bytes_yes (a b c : ByteArray) (w : World) (h : a.size + b.size + c.size ≤ 1048576) : Calls Try.prog 9 #[.string a, .string b, .string c] w fun e w' => e = .returned (.bool true) ∧ w = w' := by
  go_enter Try.func9, Try.ntmps9
  go_wp2
  go_ret
  exact ⟨rfl, rfl⟩

theorem join_empty (p k : ByteArray) (w : World) (h : p.toList.isEmpty = true) : Calls Try.prog 10 #[.string p, .string k] w fun e w' => e = .returned (.string k) ∧ w = w' := by
  go_enter Try.func10, Try.ntmps10
  go_wp2
  go_ret
  exact ⟨rfl, rfl⟩
theorem join_some (p k r : ByteArray) (w : World) (h : p.toList.isEmpty = false) (hp : p.size ≤ 2000000) (hk : k.size ≤ 2000000) (hr : p ++ dot ++ k = r) : Calls Try.prog 10 #[.string p, .string k] w fun e w' => e = .returned (.string r) ∧ w = w' := by
  subst hr
  go_enter Try.func10, Try.ntmps10
  go_wp2
  go_ret
  exact ⟨rfl, rfl⟩

theorem bytes_no (a b c : ByteArray) (w : World) (ha : a.size ≤ maxLen) (hb : b.size ≤ maxLen) (hc : c.size ≤ maxLen) (h : 1048576 < a.size + b.size + c.size) : Calls Try.prog 9 #[.string a, .string b, .string c] w fun e w' => e = .returned (.bool false) ∧ w = w' := by
  unfold maxLen at ha hb hc
  by_cases h1 : 1048576 < a.size
  · go_enter Try.func9, Try.ntmps9
    go_wp2
    go_ret
    exact ⟨rfl, rfl⟩
  by_cases h2 : 1048576 < b.size
  · go_enter Try.func9, Try.ntmps9
    go_wp2
    go_ret
    exact ⟨rfl, rfl⟩
  by_cases h3 : 1048576 < a.size + b.size
  · go_enter Try.func9, Try.ntmps9
    go_wp2
    go_ret
    exact ⟨rfl, rfl⟩
  by_cases h4 : 1048576 < c.size
  · go_enter Try.func9, Try.ntmps9
    go_wp2
    go_ret
    exact ⟨rfl, rfl⟩
  go_enter Try.func9, Try.ntmps9
  go_wp2
  go_ret
  exact ⟨rfl, rfl⟩

theorem toolong (a b c : ByteArray) (w : World) (ha : a.size ≤ maxLen) (hb : b.size ≤ maxLen) (hc : c.size ≤ maxLen) (h : 1048576 < a.size + b.size + c.size) : Calls Try.prog 4 #[.string a, .string b, .string c] w fun e w' => e = .returned (.bool true) ∧ Below w.heap.size w w' := by
  go_enter Try.func4, Try.ntmps4
  go_wp2_with (go_at_call 9; refine (bytes_no _ _ _ _ ha hb hc h).mono ?_; rintro e w' ⟨rfl, rfl⟩)
  go_ret
  exact ⟨rfl, Below.refl _ _⟩

theorem emptyB (a b c : ByteArray) (w : World) (h : a.size + b.size + c.size ≤ 1048576) (hb : b.toList.isEmpty = true) : Calls Try.prog 4 #[.string a, .string b, .string c] w fun e w' => e = .returned (.bool true) ∧ Below w.heap.size w w' := by
  have d1 : decide ((1048576 : Int) < (a.size : Int)) = false := decide_eq_false (by omega)
  have d2 : decide ((1048576 : Int) < (b.size : Int)) = false := decide_eq_false (by omega)
  have d3 : decide ((1048576 : Int) < (c.size : Int)) = false := decide_eq_false (by omega)
  have d4 : decide ((1048576 : Int) < (a.size : Int) + (b.size : Int) + (c.size : Int)) = false := decide_eq_false (by omega)
  go_enter Try.func4, Try.ntmps4
  go_wp2_with (go_at_call 9; refine (bytes_yes _ _ _ _ h).mono ?_; rintro e w' ⟨rfl, rfl⟩)
  go_ret
  exact ⟨rfl, Below.refl _ _⟩

theorem isEmpty_append {p q : ByteArray} (h : q.size ≠ 0) : (p ++ q).toList.isEmpty = false := by
  rw [List.isEmpty_eq_false_iff]
  intro e
  have : (p ++ q).toList.length = 0 := by rw [e]; rfl
  rw [ByteArray.toList_eq, Array.length_toList] at this
  have h2 : (p ++ q).size = 0 := this
  rw [ByteArray.size_append] at h2
  omega

set_option maxRecDepth 100000 in
set_option maxHeartbeats 1600000 in
theorem fullA (a b c : ByteArray) (w : World) (h : a.size + b.size + c.size ≤ 1048576) (ha : a.toList.isEmpty = false) (hb : b.toList.isEmpty = false) : Calls Try.prog 4 #[.string a, .string b, .string c] w fun e w' => e = .returned (.bool true) ∧ Below w.heap.size w w' := by
  have d1 : decide ((1048576 : Int) < (a.size : Int)) = false := decide_eq_false (by omega)
  have d2 : decide ((1048576 : Int) < (b.size : Int)) = false := decide_eq_false (by omega)
  have d3 : decide ((1048576 : Int) < (c.size : Int)) = false := decide_eq_false (by omega)
  have d4 : decide ((1048576 : Int) < (a.size : Int) + (b.size : Int) + (c.size : Int)) = false := decide_eq_false (by omega)
  have ds : dot.size = 1 := rfl
  obtain ⟨X, hX⟩ : ∃ X, X = a ++ dot ++ b ++ dot ++ c := ⟨_, rfl⟩
  obtain ⟨ab, hab⟩ : ∃ ab, ab = a ++ dot ++ b := ⟨_, rfl⟩
  obtain ⟨bc, hbc⟩ : ∃ bc, bc = b ++ dot ++ c := ⟨_, rfl⟩
  have s1 : ab.size = a.size + 1 + b.size := by rw [hab, ByteArray.size_append, ByteArray.size_append, ds]
  have s2 : bc.size = b.size + 1 + c.size := by rw [hbc, ByteArray.size_append, ByteArray.size_append, ds]
  have s3 : X.size = a.size + 1 + b.size + 1 + c.size := by rw [hX, ByteArray.size_append, ByteArray.size_append, ByteArray.size_append, ByteArray.size_append, ds]
  have e1 : ab.toList.isEmpty = false := by rw [hab, ByteArray.append_assoc]; exact isEmpty_append (by rw [ByteArray.size_append, ds]; omega)
  have J1 : ∀ w, _ := fun w => join_some a b ab w ha (by omega) (by omega) hab.symm
  have J2 : ∀ w, _ := fun w => join_some ab c X w e1 (by omega) (by omega) (by rw [hab, hX])
  have J3 : ∀ w, _ := fun w => join_some b c bc w hb (by omega) (by omega) hbc.symm
  have J4 : ∀ w, _ := fun w => join_some a bc X w ha (by omega) (by omega) (by rw [hbc, hX]; simp only [ByteArray.append_assoc])
  have x1 : X.extract 0 a.size = a := by rw [hX, ByteArray.append_assoc, ByteArray.append_assoc, ByteArray.append_assoc]; exact ByteArray.extract_append_eq_left rfl
  have x2 : X.extract (a.size + 1 + b.size + 1) X.size = c := by rw [s3, hX]; exact ByteArray.extract_append_eq_right (by rw [ByteArray.size_append, ByteArray.size_append, ByteArray.size_append, ds]) (by rw [ByteArray.size_append, ByteArray.size_append, ByteArray.size_append, ds])
  have hsub : ((X.size : Int) - (c.size : Int)).toNat = a.size + 1 + b.size + 1 := by omega
  have hlen : ((X.size : Int) != (a.size : Int) + (b.size : Int) + (c.size : Int) + 1 + 1) = false := by rw [bne_eq_false_iff_eq]; omega
  have hs1 : (a.size : Int) ≤ (X.size : Int) := by omega
  have hs2 : (c.size : Int) ≤ (X.size : Int) := by omega
  have hs3 : (X.size : Int) ≤ 2000000 := by omega
  clear hX hab hbc s1 s2 s3 ds e1
  go_enter Try.func4, Try.ntmps4
  have tok1 : True := trivial
  have tok2 : True := trivial
  have tok3 : True := trivial
  have tok4 : True := trivial
  go_wp2_with (first
    | (go_at_call 9; refine (bytes_yes _ _ _ _ h).mono ?_; rintro e w' ⟨rfl, rfl⟩)
    | (go_at_call 10; have _t := tok1; refine (J1 _).mono ?_; rintro e w' ⟨rfl, rfl⟩; clear tok1)
    | (go_at_call 10; have _t := tok2; refine (J2 _).mono ?_; rintro e w' ⟨rfl, rfl⟩; clear tok2)
    | (go_at_call 10; have _t := tok3; refine (J3 _).mono ?_; rintro e w' ⟨rfl, rfl⟩; clear tok3)
    | (go_at_call 10; have _t := tok4; refine (J4 _).mono ?_; rintro e w' ⟨rfl, rfl⟩; clear tok4))
  go_ret
  exact ⟨rfl, Below.refl _ _⟩

theorem size_empty {a : ByteArray} (ha : a.toList.isEmpty = true) : a.size = 0 := by
  have : a.toList.length = 0 := by rw [List.isEmpty_iff.1 ha]; rfl
  rw [ByteArray.toList_eq, Array.length_toList] at this
  exact this
theorem eq_empty {a : ByteArray} (ha : a.size = 0) : a = ByteArray.empty := by
  cases a with
  | mk d =>
    have : d.size = 0 := ha
    have h2 : d = #[] := Array.eq_empty_of_size_eq_zero this
    rw [h2]; rfl

set_option maxRecDepth 100000 in
set_option maxHeartbeats 1600000 in
theorem emptyA (a b c : ByteArray) (w : World) (h : a.size + b.size + c.size ≤ 1048576) (ha : a.toList.isEmpty = true) (hb : b.toList.isEmpty = false) : Calls Try.prog 4 #[.string a, .string b, .string c] w fun e w' => e = .returned (.bool true) ∧ Below w.heap.size w w' := by
  have d1 : decide ((1048576 : Int) < (a.size : Int)) = false := decide_eq_false (by omega)
  have d2 : decide ((1048576 : Int) < (b.size : Int)) = false := decide_eq_false (by omega)
  have d3 : decide ((1048576 : Int) < (c.size : Int)) = false := decide_eq_false (by omega)
  have d4 : decide ((1048576 : Int) < (a.size : Int) + (b.size : Int) + (c.size : Int)) = false := decide_eq_false (by omega)
  have ds : dot.size = 1 := rfl
  have ha0 := size_empty ha
  obtain ⟨X, hX⟩ : ∃ X, X = b ++ dot ++ c := ⟨_, rfl⟩
  have s3 : X.size = b.size + 1 + c.size := by rw [hX, ByteArray.size_append, ByteArray.size_append, ds]
  have J1 : ∀ w, _ := fun w => join_empty a b w ha
  have J2 : ∀ w, _ := fun w => join_some b c X w hb (by omega) (by omega) hX.symm
  have J4 : ∀ w, _ := fun w => join_empty a X w ha
  have x1 : X.extract 0 a.size = a := by
    have e := eq_empty ha0
    subst e
    have h2 : X = ByteArray.empty ++ X := by simp
    rw [h2]
    exact ByteArray.extract_append_eq_left rfl
  have x2 : X.extract (b.size + 1) X.size = c := by rw [s3, hX]; exact ByteArray.extract_append_eq_right (by rw [ByteArray.size_append, ds]) (by rw [ByteArray.size_append, ds])
  have hsub : ((X.size : Int) - (c.size : Int)).toNat = b.size + 1 := by omega
  have hlen : ((X.size : Int) != (a.size : Int) + (b.size : Int) + (c.size : Int) + 1) = false := by rw [bne_eq_false_iff_eq]; omega
  have hs1 : (a.size : Int) ≤ (X.size : Int) := by omega
  have hs2 : (c.size : Int) ≤ (X.size : Int) := by omega
  have hs3 : (X.size : Int) ≤ 2000000 := by omega
  clear hX s3 ds ha0
  go_enter Try.func4, Try.ntmps4
  have tok1 : True := trivial
  have tok2 : True := trivial
  have tok3 : True := trivial
  have tok4 : True := trivial
  go_wp2_with (first
    | (go_at_call 9; refine (bytes_yes _ _ _ _ h).mono ?_; rintro e w' ⟨rfl, rfl⟩)
    | (go_at_call 10; have _t := tok1; refine (J1 _).mono ?_; rintro e w' ⟨rfl, rfl⟩; clear tok1)
    | (go_at_call 10; have _t := tok2; refine (J2 _).mono ?_; rintro e w' ⟨rfl, rfl⟩; clear tok2)
    | (go_at_call 10; have _t := tok3; refine (J2 _).mono ?_; rintro e w' ⟨rfl, rfl⟩; clear tok3)
    | (go_at_call 10; have _t := tok4; refine (J4 _).mono ?_; rintro e w' ⟨rfl, rfl⟩; clear tok4))
  go_ret
  exact ⟨rfl, Below.refl _ _⟩
end Join
end Go.Proofs.Qxb6001722a

/-
  zzRefModel: the numbers.
-/
import Derived.Test.Qxb6000730aModelA
namespace Go.Proofs.Qxb6000730a
open Go.ChangeShapes Go.WideShapes Go.ChangeAt Go.RowKit
namespace Model
open Ref (hx nm cap r0 R)
open Num (lst)
open Run (names)
set_option linter.unusedVariables false

theorem lst2 (s : ByteArray) (h : 1 < s.size) : lst s = (s[0].toNat : Int) :: (s[1].toNat : Int) :: (lst s).drop 2 := by
  rw [← drop_get s 1 h]; exact lst_cons s (by omega)
theorem lst3 (s : ByteArray) (h : 2 < s.size) : lst s = (s[0].toNat : Int) :: (s[1].toNat : Int) :: (s[2].toNat : Int) :: (lst s).drop 3 := by
  rw [← drop_get s 2 h]; exact lst2 s (by omega)
theorem byte_le (s : ByteArray) (k : Nat) (h : k < s.size) : (s[k].toNat : Int) ≤ 255 := by have := s[k].toNat_lt; omega

theorem hash1 (s : ByteArray) (w : World) (h : s.size = 1) (h35 : (s[0].toNat : Int) = 35) (e : Int) (tk : Bool) (r : R) (hF : Run.run r0 0 (lst s) = (e, tk, r)) : Says s w e tk r := by
  have hl : lst s = [35] := by
    rw [lst_cons s (by omega), h35]
    have : (lst s).drop 1 = [] := List.drop_of_length_le (by rw [Num.lst_length]; omega)
    rw [this]
  rw [hl, Run.c_hash] at hF
  simp only [Prod.mk.injEq] at hF
  obtain ⟨rfl, rfl, rfl⟩ := hF
  have h0 : 0 < s.size := by omega
  have hb : ((s.size : Int) == 0) = false := by rw [h]; rfl
  have hb1 : ((s.size : Int) == 1) = true := by rw [h]; rfl
  have hb2 : ((s[0].toNat : Int) != 35) = false := by rw [h35]; rfl
  clear h hl h35
  unfold Says
  go_enter Try.func14, Try.ntmps14
  go_wp2
  refine bodyPost_ret (results_tmp4 rfl _ _ _) rfl ?_
  exact ⟨_, rfl, rfl, Below.refl _ _⟩

theorem hash_bad (s : ByteArray) (w : World) (hm : s.size ≤ 65536) (h : 1 < s.size) (h35 : (s[0].toNat : Int) = 35) (hd : ¬ (48 ≤ (s[1].toNat : Int) ∧ (s[1].toNat : Int) ≤ 57)) (x1 : (s[1].toNat : Int) ≠ 120) (x2 : (s[1].toNat : Int) ≠ 88) (e : Int) (tk : Bool) (r : R) (hF : Run.run r0 0 (lst s) = (e, tk, r)) : Says s w e tk r := by
  rw [lst2 s h, h35, Run.c_hash_bad _ _ hd x1 x2] at hF
  simp only [Prod.mk.injEq] at hF
  obtain ⟨rfl, rfl, rfl⟩ := hF
  have hb : ((s.size : Int) == 0) = false := beq_eq_false_iff_ne.2 (by omega)
  have hb1 : ((s.size : Int) == 1) = false := beq_eq_false_iff_ne.2 (by omega)
  have hb2 : ((s[0].toNat : Int) != 35) = false := by rw [h35]; rfl
  have hx1 : ((s[1].toNat : Int) != 120) = true := by simpa using x1
  have hx2 : ((s[1].toNat : Int) != 88) = true := by simpa using x2
  have hle := byte_le s 1 h
  have HD : Hid (¬ (48 ≤ (s[1].toNat : Int) ∧ (s[1].toNat : Int) ≤ 57)) := hd
  clear h35 x1 x2 hd
  unfold Says
  go_enter Try.func14, Try.ntmps14
  go_wp2_with (go_at_call 35; refine (Num.digit10_no _ _ (by omega) hle HD.out).mono ?_; rintro e w' ⟨rfl, rfl⟩)
  refine bodyPost_ret (results_tmp4 rfl _ _ _) rfl ?_
  exact ⟨_, rfl, rfl, Below.refl _ _⟩

theorem x1_120 (s : ByteArray) (w : World) (h : 1 < s.size) (h35 : (s[0].toNat : Int) = 35) (hxx : (s[1].toNat : Int) = 120) (hb2 : ((s[0].toNat : Int) != 35) = false) (hx1 : ((s[1].toNat : Int) != 120) = false) (hx2 : ((s[1].toNat : Int) != 88) = true) (HD : Hid (¬ (48 ≤ (s[1].toNat : Int) ∧ (s[1].toNat : Int) ≤ 57))) (hle : (s[1].toNat : Int) ≤ 255) (h2 : s.size = 2) (e : Int) (tk : Bool) (r : R) (hF : Run.run r0 0 (lst s) = (e, tk, r)) : Says s w e tk r := by
  have hl : lst s = [35, 120] := by
    rw [lst2 s (by omega), h35, hxx]
    have : (lst s).drop 2 = [] := List.drop_of_length_le (by rw [Num.lst_length]; omega)
    rw [this]
  rw [hl, Run.c_x 120 (Or.inl rfl)] at hF
  simp only [Prod.mk.injEq] at hF
  obtain ⟨rfl, rfl, rfl⟩ := hF
  have hb : ((s.size : Int) == 0) = false := by rw [h2]; rfl
  have hb1 : ((s.size : Int) == 1) = false := by rw [h2]; rfl
  have hb22 : ((s.size : Int) == 2) = true := by rw [h2]; rfl
  clear h2 hl h35 hxx
  unfold Says
  go_enter Try.func14, Try.ntmps14
  go_wp2_with (go_at_call 35; refine (Num.digit10_no _ _ (by omega) hle HD.out).mono ?_; rintro e w' ⟨rfl, rfl⟩)
  refine bodyPost_ret (results_tmp4 rfl _ _ _) rfl ?_
  exact ⟨_, rfl, rfl, Below.refl _ _⟩

theorem x_bad_120 (s : ByteArray) (w : World) (hm : s.size ≤ 65536) (h : 2 < s.size) (h35 : (s[0].toNat : Int) = 35) (hxx : (s[1].toNat : Int) = 120) (hbad : hx (s[2].toNat : Int) < 0) (e : Int) (tk : Bool) (r : R) (hF : Run.run r0 0 (lst s) = (e, tk, r)) : Says s w e tk r := by
  rw [lst3 s h, h35, hxx, Run.c_x_bad 120 _ _ (Or.inl rfl) hbad] at hF
  simp only [Prod.mk.injEq] at hF
  obtain ⟨rfl, rfl, rfl⟩ := hF
  have hb : ((s.size : Int) == 0) = false := beq_eq_false_iff_ne.2 (by omega)
  have hb1 : ((s.size : Int) == 1) = false := beq_eq_false_iff_ne.2 (by omega)
  have hb22 : ((s.size : Int) == 2) = false := beq_eq_false_iff_ne.2 (by omega)
  have hb2 : ((s[0].toNat : Int) != 35) = false := by rw [h35]; rfl
  have hx1 : ((s[1].toNat : Int) != 120) = false := by rw [hxx]; rfl
  have hx2 : ((s[1].toNat : Int) != 88) = true := by rw [hxx]; rfl
  have HD : Hid (¬ (48 ≤ (s[1].toNat : Int) ∧ (s[1].toNat : Int) ≤ 57)) := by unfold Hid; omega
  have hle := byte_le s 1 (by omega)
  have hle2 := byte_le s 2 h
  clear h35 hxx
  have tok1 : True := trivial
  unfold Says
  go_enter Try.func14, Try.ntmps14
  go_wp2_with (first | (go_at_call 35; have _t := tok1; refine (Num.digit10_no _ _ (by omega) hle HD.out).mono ?_; rintro e w' ⟨rfl, rfl⟩; clear tok1) | (go_at_call 35; refine (Num.digit16_no _ _ (by omega) hle2 hbad).mono ?_; rintro e w' ⟨rfl, rfl⟩))
  refine bodyPost_ret (results_tmp4 rfl _ _ _) rfl ?_
  exact ⟨_, rfl, rfl, Below.refl _ _⟩

theorem x1_88 (s : ByteArray) (w : World) (h : 1 < s.size) (h35 : (s[0].toNat : Int) = 35) (hxx : (s[1].toNat : Int) = 88) (hb2 : ((s[0].toNat : Int) != 35) = false) (hx1 : ((s[1].toNat : Int) != 120) = true) (hx2 : ((s[1].toNat : Int) != 88) = false) (HD : Hid (¬ (48 ≤ (s[1].toNat : Int) ∧ (s[1].toNat : Int) ≤ 57))) (hle : (s[1].toNat : Int) ≤ 255) (h2 : s.size = 2) (e : Int) (tk : Bool) (r : R) (hF : Run.run r0 0 (lst s) = (e, tk, r)) : Says s w e tk r := by
  have hl : lst s = [35, 88] := by
    rw [lst2 s (by omega), h35, hxx]
    have : (lst s).drop 2 = [] := List.drop_of_length_le (by rw [Num.lst_length]; omega)
    rw [this]
  rw [hl, Run.c_x 88 (Or.inr rfl)] at hF
  simp only [Prod.mk.injEq] at hF
  obtain ⟨rfl, rfl, rfl⟩ := hF
  have hb : ((s.size : Int) == 0) = false := by rw [h2]; rfl
  have hb1 : ((s.size : Int) == 1) = false := by rw [h2]; rfl
  have hb22 : ((s.size : Int) == 2) = true := by rw [h2]; rfl
  clear h2 hl h35 hxx
  unfold Says
  go_enter Try.func14, Try.ntmps14
  go_wp2_with (go_at_call 35; refine (Num.digit10_no _ _ (by omega) hle HD.out).mono ?_; rintro e w' ⟨rfl, rfl⟩)
  refine bodyPost_ret (results_tmp4 rfl _ _ _) rfl ?_
  exact ⟨_, rfl, rfl, Below.refl _ _⟩

theorem x_bad_88 (s : ByteArray) (w : World) (hm : s.size ≤ 65536) (h : 2 < s.size) (h35 : (s[0].toNat : Int) = 35) (hxx : (s[1].toNat : Int) = 88) (hbad : hx (s[2].toNat : Int) < 0) (e : Int) (tk : Bool) (r : R) (hF : Run.run r0 0 (lst s) = (e, tk, r)) : Says s w e tk r := by
  rw [lst3 s h, h35, hxx, Run.c_x_bad 88 _ _ (Or.inr rfl) hbad] at hF
  simp only [Prod.mk.injEq] at hF
  obtain ⟨rfl, rfl, rfl⟩ := hF
  have hb : ((s.size : Int) == 0) = false := beq_eq_false_iff_ne.2 (by omega)
  have hb1 : ((s.size : Int) == 1) = false := beq_eq_false_iff_ne.2 (by omega)
  have hb22 : ((s.size : Int) == 2) = false := beq_eq_false_iff_ne.2 (by omega)
  have hb2 : ((s[0].toNat : Int) != 35) = false := by rw [h35]; rfl
  have hx1 : ((s[1].toNat : Int) != 120) = true := by rw [hxx]; rfl
  have hx2 : ((s[1].toNat : Int) != 88) = false := by rw [hxx]; rfl
  have HD : Hid (¬ (48 ≤ (s[1].toNat : Int) ∧ (s[1].toNat : Int) ≤ 57)) := by unfold Hid; omega
  have hle := byte_le s 1 (by omega)
  have hle2 := byte_le s 2 h
  clear h35 hxx
  have tok1 : True := trivial
  unfold Says
  go_enter Try.func14, Try.ntmps14
  go_wp2_with (first | (go_at_call 35; have _t := tok1; refine (Num.digit10_no _ _ (by omega) hle HD.out).mono ?_; rintro e w' ⟨rfl, rfl⟩; clear tok1) | (go_at_call 35; refine (Num.digit16_no _ _ (by omega) hle2 hbad).mono ?_; rintro e w' ⟨rfl, rfl⟩))
  refine bodyPost_ret (results_tmp4 rfl _ _ _) rfl ?_
  exact ⟨_, rfl, rfl, Below.refl _ _⟩

end Model
end Go.Proofs.Qxb6000730a

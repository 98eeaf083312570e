/-
  The checks of a tag's parts: zzIsSpace, zzTagNameOK, zzAttrNameOK, zzHasByte.
-/
import Derived.Test.Qxb6000730aOpen
import Derived.Test.Qxb6000730aNum
namespace Go.Proofs.Qxb6000730a
open Go.ChangeShapes Go.WideShapes Go.ChangeAt Go.RowKit
namespace Open
open Num (lst)
set_option linter.unusedVariables false

theorem zzSpace_no (c : Int) (w : World) (h0 : 0 ≤ c) (h1 : c ≤ 255) (h : Leaf.sp c = false) :
    Calls Try.prog 38 #[.int .u8 c] w fun e w' => e = .returned (.bool false) ∧ w = w' := by
  have hn : ¬ ((9 ≤ c ∧ c ≤ 13) ∨ (28 ≤ c ∧ c ≤ 32) ∨ c = 133 ∨ c = 160) := by simpa [Leaf.sp] using h
  clear h
  have e1 : (c == 133) = false := beq_eq_false_iff_ne.2 (by omega)
  have e2 : (c == 160) = false := beq_eq_false_iff_ne.2 (by omega)
  by_cases a : c < 9
  · clear hn
    go_enter Try.func38, Try.ntmps38
    go_wp2
    go_ret
    exact ⟨rfl, rfl⟩
  · by_cases a2 : c < 28
    · have a3 : decide (c ≤ 13) = false := decide_eq_false (by omega)
      clear hn
      go_enter Try.func38, Try.ntmps38
      go_wp2
      go_ret
      exact ⟨rfl, rfl⟩
    · have a4 : decide (c ≤ 13) = false := decide_eq_false (by omega)
      have a3 : decide (c ≤ 32) = false := decide_eq_false (by omega)
      clear hn
      go_enter Try.func38, Try.ntmps38
      go_wp2
      go_ret
      exact ⟨rfl, rfl⟩

theorem zzSpace_yes (c : Int) (w : World) (h0 : 0 ≤ c) (h1 : c ≤ 255) (h : Leaf.sp c = true) :
    Calls Try.prog 38 #[.int .u8 c] w fun e w' => e = .returned (.bool true) ∧ w = w' := by
  have hn : (9 ≤ c ∧ c ≤ 13) ∨ (28 ≤ c ∧ c ≤ 32) ∨ c = 133 ∨ c = 160 := by simpa [Leaf.sp] using h
  clear h
  rcases hn with ⟨a, b⟩ | ⟨a, b⟩ | rfl | rfl
  all_goals
    go_enter Try.func38, Try.ntmps38
    go_wp2
    go_ret
    exact ⟨rfl, rfl⟩


theorem take_mem (s : ByteArray) (k : Nat) (h : k < s.size) (p : Int → Prop) (hk : ∀ c ∈ (lst s).take k, p c) (hc : p (s[k].toNat : Int)) : ∀ c ∈ (lst s).take (k + 1), p c := by
  have hl : k < (lst s).length := by rw [Num.lst_length]; exact h
  intro c hm
  rw [List.take_succ_eq_append_getElem hl, Num.lst_get s k h] at hm
  rcases List.mem_append.1 hm with hm | hm
  · exact hk c hm
  · simp at hm; subst hm; exact hc
theorem get_mem (s : ByteArray) (k : Nat) (h : k < s.size) : (s[k].toNat : Int) ∈ lst s := by
  have hl : k < (lst s).length := by rw [Num.lst_length]; exact h
  rw [← Num.lst_get s k h]
  exact List.getElem_mem hl
theorem take_all (s : ByteArray) (k : Nat) (h : ¬ k < s.size) (p : Int → Prop) (hk : ∀ c ∈ (lst s).take k, p c) : ∀ c ∈ lst s, p c := by
  intro c hc
  exact hk c (by rw [List.take_of_length_le (by rw [Num.lst_length]; omega)]; exact hc)
def To (p : Int → Prop) (s : ByteArray) (k : Nat) : Prop := ∀ c ∈ (lst s).take k, p c
theorem To.zero (p : Int → Prop) (s : ByteArray) : To p s 0 := by intro c hc; simp at hc
theorem not_ok {b : Bool} {p : Int → Prop} {s : ByteArray} (hb : Hid (b = true ↔ ∀ c ∈ lst s, p c)) (k : Nat) (h : k < s.size) (hc : ¬ p (s[k].toNat : Int)) : b = false := by
  cases b
  · rfl
  · exact absurd (hb.out.1 rfl _ (get_mem s k h)) hc

set_option maxRecDepth 100000 in
set_option maxHeartbeats 1600000 in
theorem nameOK (s : ByteArray) (b : Bool) (w : World) (hs : s.size ≤ 65536) (hb : Hid (b = true ↔ ∀ c ∈ lst s, nameB c)) : Calls Try.prog 25 #[.string s] w fun e w' => e = .returned (.bool b) ∧ w = w' := by
  go_enter Try.func25, Try.ntmps25
  go_wp2
  go_loop [3] (fun i => ∃ k : Nat, k ≤ s.size ∧ i = .int .i64 k ∧ To nameB s k) (fun i => s.size - (intOf i).toNat)
  case atStart => exact ⟨0, Nat.zero_le _, rfl, To.zero _ _⟩
  case round =>
    obtain ⟨k, hk, rfl, hto⟩ := hrel
    by_cases hlt : k < s.size
    · skip
      by_cases n9 : (s[k].toNat : Int) = 9
      · have hbf := not_ok hb k hlt (fun h => by obtain ⟨a1, a2, a3, a4, a5, a6, a7, a8⟩ := h; omega)
        subst hbf
        have e9 : ((s[k].toNat : Int) == 9) = true := beq_iff_eq.2 n9
        clear n9
        go_wp2
        go_ret
        exact ⟨rfl, rfl⟩
      have f9 : ((s[k].toNat : Int) == 9) = false := beq_eq_false_iff_ne.2 n9
      by_cases n10 : (s[k].toNat : Int) = 10
      · have hbf := not_ok hb k hlt (fun h => by obtain ⟨a1, a2, a3, a4, a5, a6, a7, a8⟩ := h; omega)
        subst hbf
        have e10 : ((s[k].toNat : Int) == 10) = true := beq_iff_eq.2 n10
        clear n10
        go_wp2
        go_ret
        exact ⟨rfl, rfl⟩
      have f10 : ((s[k].toNat : Int) == 10) = false := beq_eq_false_iff_ne.2 n10
      by_cases n13 : (s[k].toNat : Int) = 13
      · have hbf := not_ok hb k hlt (fun h => by obtain ⟨a1, a2, a3, a4, a5, a6, a7, a8⟩ := h; omega)
        subst hbf
        have e13 : ((s[k].toNat : Int) == 13) = true := beq_iff_eq.2 n13
        clear n13
        go_wp2
        go_ret
        exact ⟨rfl, rfl⟩
      have f13 : ((s[k].toNat : Int) == 13) = false := beq_eq_false_iff_ne.2 n13
      by_cases n12 : (s[k].toNat : Int) = 12
      · have hbf := not_ok hb k hlt (fun h => by obtain ⟨a1, a2, a3, a4, a5, a6, a7, a8⟩ := h; omega)
        subst hbf
        have e12 : ((s[k].toNat : Int) == 12) = true := beq_iff_eq.2 n12
        clear n12
        go_wp2
        go_ret
        exact ⟨rfl, rfl⟩
      have f12 : ((s[k].toNat : Int) == 12) = false := beq_eq_false_iff_ne.2 n12
      by_cases n32 : (s[k].toNat : Int) = 32
      · have hbf := not_ok hb k hlt (fun h => by obtain ⟨a1, a2, a3, a4, a5, a6, a7, a8⟩ := h; omega)
        subst hbf
        have e32 : ((s[k].toNat : Int) == 32) = true := beq_iff_eq.2 n32
        clear n32
        go_wp2
        go_ret
        exact ⟨rfl, rfl⟩
      have f32 : ((s[k].toNat : Int) == 32) = false := beq_eq_false_iff_ne.2 n32
      by_cases n47 : (s[k].toNat : Int) = 47
      · have hbf := not_ok hb k hlt (fun h => by obtain ⟨a1, a2, a3, a4, a5, a6, a7, a8⟩ := h; omega)
        subst hbf
        have e47 : ((s[k].toNat : Int) == 47) = true := beq_iff_eq.2 n47
        clear n47
        go_wp2
        go_ret
        exact ⟨rfl, rfl⟩
      have f47 : ((s[k].toNat : Int) == 47) = false := beq_eq_false_iff_ne.2 n47
      by_cases n62 : (s[k].toNat : Int) = 62
      · have hbf := not_ok hb k hlt (fun h => by obtain ⟨a1, a2, a3, a4, a5, a6, a7, a8⟩ := h; omega)
        subst hbf
        have e62 : ((s[k].toNat : Int) == 62) = true := beq_iff_eq.2 n62
        clear n62
        go_wp2
        go_ret
        exact ⟨rfl, rfl⟩
      have f62 : ((s[k].toNat : Int) == 62) = false := beq_eq_false_iff_ne.2 n62
      by_cases n0 : (s[k].toNat : Int) = 0
      · have hbf := not_ok hb k hlt (fun h => by obtain ⟨a1, a2, a3, a4, a5, a6, a7, a8⟩ := h; omega)
        subst hbf
        have e0 : ((s[k].toNat : Int) == 0) = true := beq_iff_eq.2 n0
        clear n0
        go_wp2
        go_ret
        exact ⟨rfl, rfl⟩
      have f0 : ((s[k].toNat : Int) == 0) = false := beq_eq_false_iff_ne.2 n0
      have hnext := take_mem s k hlt nameB hto ⟨n9, n10, n13, n12, n32, n47, n62, n0⟩
      clear n9 n10 n13 n12 n32 n47 n62 n0
      go_wp2
      go_round
      case rel => exact ⟨k + 1, by omega, by go_num, hnext⟩
      case measure => simp [intOf]; omega
    · have hbt : b = true := hb.out.2 (take_all s k hlt nameB hto)
      subst hbt
      go_wp2
      go_ret
      exact ⟨rfl, rfl⟩

set_option maxRecDepth 100000 in
set_option maxHeartbeats 1600000 in
theorem attrOK_empty (s : ByteArray) (w : World) (hs : s.size = 0) : Calls Try.prog 26 #[.string s] w fun e w' => e = .returned (.bool false) ∧ w = w' := by
  have h0 : ((s.size : Int) == 0) = true := by rw [hs]; rfl
  clear hs
  go_enter Try.func26, Try.ntmps26
  go_wp2
  go_ret
  exact ⟨rfl, rfl⟩
set_option maxRecDepth 100000 in
set_option maxHeartbeats 1600000 in
theorem attrOK_some (s : ByteArray) (b : Bool) (w : World) (hs : s.size ≤ 65536) (h0 : 0 < s.size) (hb : Hid (b = true ↔ ∀ c ∈ lst s, keyB c)) : Calls Try.prog 26 #[.string s] w fun e w' => e = .returned (.bool b) ∧ w = w' := by
  have hz : ((s.size : Int) == 0) = false := beq_eq_false_iff_ne.2 (by omega)
  go_enter Try.func26, Try.ntmps26
  go_wp2
  go_loop [3] (fun i => ∃ k : Nat, k ≤ s.size ∧ i = .int .i64 k ∧ To keyB s k) (fun i => s.size - (intOf i).toNat)
  case atStart => exact ⟨0, Nat.zero_le _, rfl, To.zero _ _⟩
  case round =>
    obtain ⟨k, hk, rfl, hto⟩ := hrel
    by_cases hlt : k < s.size
    · have hle : (s[k].toNat : Int) ≤ 255 := by have := s[k].toNat_lt; omega
      cases hsp : Leaf.sp (s[k].toNat : Int) with
      | true =>
        have hbf := not_ok hb k hlt (fun h => by have := h.1; rw [hsp] at this; cases this)
        subst hbf
        go_wp2_with (go_at_call 38; refine (zzSpace_yes _ _ (by omega) hle hsp).mono ?_; rintro e w' ⟨rfl, rfl⟩)
        go_ret
        exact ⟨rfl, rfl⟩
      | false =>
        by_cases n47 : (s[k].toNat : Int) = 47
        · have hbf := not_ok hb k hlt (fun h => by obtain ⟨a1, a2, a3, a4⟩ := h; omega)
          subst hbf
          have e47 : ((s[k].toNat : Int) == 47) = true := beq_iff_eq.2 n47
          clear n47
          go_wp2_with (go_at_call 38; refine (zzSpace_no _ _ (by omega) hle hsp).mono ?_; rintro e w' ⟨rfl, rfl⟩)
          go_ret
          exact ⟨rfl, rfl⟩
        have f47 : ((s[k].toNat : Int) == 47) = false := beq_eq_false_iff_ne.2 n47
        by_cases n62 : (s[k].toNat : Int) = 62
        · have hbf := not_ok hb k hlt (fun h => by obtain ⟨a1, a2, a3, a4⟩ := h; omega)
          subst hbf
          have e62 : ((s[k].toNat : Int) == 62) = true := beq_iff_eq.2 n62
          clear n62
          go_wp2_with (go_at_call 38; refine (zzSpace_no _ _ (by omega) hle hsp).mono ?_; rintro e w' ⟨rfl, rfl⟩)
          go_ret
          exact ⟨rfl, rfl⟩
        have f62 : ((s[k].toNat : Int) == 62) = false := beq_eq_false_iff_ne.2 n62
        by_cases n61 : (s[k].toNat : Int) = 61
        · have hbf := not_ok hb k hlt (fun h => by obtain ⟨a1, a2, a3, a4⟩ := h; omega)
          subst hbf
          have e61 : ((s[k].toNat : Int) == 61) = true := beq_iff_eq.2 n61
          clear n61
          go_wp2_with (go_at_call 38; refine (zzSpace_no _ _ (by omega) hle hsp).mono ?_; rintro e w' ⟨rfl, rfl⟩)
          go_ret
          exact ⟨rfl, rfl⟩
        have f61 : ((s[k].toNat : Int) == 61) = false := beq_eq_false_iff_ne.2 n61
        have hnext := take_mem s k hlt keyB hto ⟨hsp, n47, n62, n61⟩
        clear n47 n62 n61
        go_wp2_with (go_at_call 38; refine (zzSpace_no _ _ (by omega) hle hsp).mono ?_; rintro e w' ⟨rfl, rfl⟩)
        go_round
        case rel => exact ⟨k + 1, by omega, by go_num, hnext⟩
        case measure => simp [intOf]; omega
    · have hbt : b = true := hb.out.2 (take_all s k hlt keyB hto)
      subst hbt
      go_wp2
      go_ret
      exact ⟨rfl, rfl⟩

set_option maxRecDepth 100000 in
set_option maxHeartbeats 1600000 in
theorem hasByte (s : ByteArray) (q : Int) (b : Bool) (w : World) (hs : s.size ≤ 65536) (hb : Hid (b = true ↔ ∀ c ∈ lst s, c ≠ q)) : Calls Try.prog 27 #[.string s, .int .u8 q] w fun e w' => e = .returned (.bool (!b)) ∧ w = w' := by
  go_enter Try.func27, Try.ntmps27
  go_wp2
  go_loop [5] (fun i => ∃ k : Nat, k ≤ s.size ∧ i = .int .i64 k ∧ To (fun c => c ≠ q) s k) (fun i => s.size - (intOf i).toNat)
  case atStart => exact ⟨0, Nat.zero_le _, rfl, To.zero _ _⟩
  case round =>
    obtain ⟨k, hk, rfl, hto⟩ := hrel
    by_cases hlt : k < s.size
    · by_cases hq : (s[k].toNat : Int) = q
      · have hbf := not_ok hb k hlt (fun h => h hq)
        subst hbf
        have e1 : ((s[k].toNat : Int) == q) = true := beq_iff_eq.2 hq
        clear hq
        go_wp2
        go_ret
        exact ⟨rfl, rfl⟩
      · have e1 : ((s[k].toNat : Int) == q) = false := beq_eq_false_iff_ne.2 hq
        have hnext := take_mem s k hlt (fun c => c ≠ q) hto hq
        have HNX : Hid (To (fun c => c ≠ q) s (k + 1)) := hnext
        clear hq hnext
        go_wp2
        go_round
        case rel => exact ⟨k + 1, by omega, by go_num, HNX.out⟩
        case measure => simp [intOf]; omega
    · have hbt : b = true := hb.out.2 (take_all s k hlt (fun c => c ≠ q) hto)
      subst hbt
      go_wp2
      go_ret
      exact ⟨rfl, rfl⟩

end Open
end Go.Proofs.Qxb6000730a

/-
  FnTagStepWithoutQuotesEndsAtFirstGT: the walk.
-/
import Derived.Test.Qxb6000730aTagFirst
namespace Go.Proofs.Qxb6000730a
open Go.ChangeShapes Go.WideShapes Go.ChangeAt Go.RowKit
namespace TagFirst
open Tag
set_option linter.unusedVariables false

theorem plain_zero (s : ByteArray) (long : Bool) : Plain s long 0 := fun j h h0 => absurd h0 (by omega)

theorem next_ok {s : ByteArray} {l : Bool} {k : Nat} (h : Plain s l k) (hk : k < s.size) (h1 : ((s[k].toNat : Int) == 39) = false ∧ ((s[k].toNat : Int) == 34) = false) (h3 : l = true ∨ ((s[k].toNat : Int) == 0) = false) : Plain s l (k + 1) := by
  obtain ⟨a, b⟩ := h1
  simp only [beq_eq_false_iff_ne] at a b h3
  exact plain_succ h hk (by omega) (by omega) (by rcases h3 with x | x; exact Or.inl x; exact Or.inr (by omega))

theorem first_or {s : ByteArray} {k : Nat} {l : Bool} {hk : k < s.size} (h : ((s[k].toNat : Int) == 0) = false) : l = true ∨ ((s[k].toNat : Int) == 0) = false := Or.inr h

theorem long_str (s : ByteArray) (l : Bool) (w : World) (hm : s.size ≤ maxLen) (h : 1048576 < s.size) : Calls Try.prog 7 #[.string s, .bool l] w fun e w' => e = .returned (.bool true) ∧ Below w.heap.size w w' := by
  go_enter Try.func7, Try.ntmps7
  go_wp2_with (go_at_call 23; refine (Tag.bytes7_no _ _ _ hm h).mono ?_; rintro e w' ⟨rfl, rfl⟩)
  go_ret
  exact ⟨rfl, Below.refl _ _⟩

theorem mid_str (s : ByteArray) (l : Bool) (w : World) (h : s.size ≤ 1048576) (h2 : 65536 < s.size) : Calls Try.prog 7 #[.string s, .bool l] w fun e w' => e = .returned (.bool true) ∧ Below w.heap.size w w' := by
  go_enter Try.func7, Try.ntmps7
  go_wp2_with (go_at_call 23; refine (Tag.bytes7_yes _ _ _ h).mono ?_; rintro e w' ⟨rfl, rfl⟩)
  go_ret
  exact ⟨rfl, Below.refl _ _⟩

set_option maxRecDepth 100000 in
set_option maxHeartbeats 1600000 in
theorem short_str (s : ByteArray) (l : Bool) (w : World) (h : s.size ≤ 65536) : Calls Try.prog 7 #[.string s, .bool l] w fun e w' => e = .returned (.bool true) ∧ Below w.heap.size w w' := by
  go_enter Try.func7, Try.ntmps7
  go_wp2_with (go_at_call 23; refine (Tag.bytes7_yes _ _ _ (by omega)).mono ?_; rintro e w' ⟨rfl, rfl⟩)
  go_loop [5] (fun i => ∃ k : Nat, k ≤ s.size ∧ i = .int .i64 k ∧ Plain s l k) (fun i => s.size - (intOf i).toNat)
  case atStart => exact ⟨0, Nat.zero_le _, rfl, plain_zero _ _⟩
  case round =>
    obtain ⟨k, hk, rfl, hpl⟩ := hrel
    by_cases hlt : k < s.size
    · cases l
      all_goals go_wp2
      all_goals first
        | (go_ret; exact ⟨rfl, Below.refl _ _⟩)
        | (have h1 : ((s[k].toNat : Int) == 39) = false ∧ ((s[k].toNat : Int) == 34) = false := by assumption
           go_round
           case rel => exact ⟨k + 1, by omega, by go_num, next_ok hpl hlt h1 (first_or (by assumption))⟩
           case measure => simp [intOf]; omega)
        | (have h1 : ((s[k].toNat : Int) == 39) = false ∧ ((s[k].toNat : Int) == 34) = false := by assumption
           go_round
           case rel => exact ⟨k + 1, by omega, by go_num, next_ok hpl hlt h1 (Or.inl rfl)⟩
           case measure => simp [intOf]; omega)
    · have hk2 : k = s.size := by omega
      have HK : Hid (Plain s l s.size) := by rw [← hk2]; exact hpl
      clear hk2 hpl
      go_wp2_with (first | (go_at_call 21; refine (Tag.new_any _).mono ?_; rintro e w1 ⟨rfl, hb1⟩) | (refine wpList_store_row rfl 45 (.tmp 6) (.tmp 40) rfl _ fresh rfl rfl 45 _ (heap_alloc_new _ _) size45 rfl fresh_one ?_))
      have hB := hb1.size
      go_loopw [7] (fun i wr => ∃ (k : Nat) (m : M), k ≤ s.size ∧ i = .int .i64 k ∧ Box w1.heap.size m wr ∧ On k m ∧ Below w.heap.size w wr) (fun i _ => s.size - (intOf i).toNat)
      case atStart => exact ⟨0, m0, Nat.zero_le _, rfl, fresh_box (heap_setRow_alloc _ _ _ _), on_zero, setRow_below (hb1.alloc hB _) _ hB _⟩
      case round =>
        clear hlt hk
        obtain ⟨k, m, hk, rfl, hbox, hon, hbel⟩ := hrel
        by_cases hlt : k < s.size
        · have hfit := hon.fit (by omega)
          have hc1 : (s[k].toNat : Int) ≤ 255 := by have := s[k].toNat_lt; omega
          obtain ⟨p1, p2, p3⟩ := HK.out k hlt hlt
          have hz : l = true ∨ (s[k].toNat : Int) ≠ 0 := by rcases p3 with x | x; exact Or.inl x; exact Or.inr (by omega)
          by_cases h62 : (s[k].toNat : Int) = 62
          · have hr : (Tag.step m (s[k].toNat : Int) ((k : Int) + 1) l).2 = 1 := by rw [h62]; exact step_gt hon _ _
            have hb62 : ((s[k].toNat : Int) == 62) = true := beq_iff_eq.2 h62
            clear h62 hz p1 p2 p3
            go_wp2_with (go_at_call 22; refine (Tag.zzTagStep w1.heap.size m _ _ _ _ hbox hfit (by omega) hc1).mono ?_; rintro e w2 ⟨rfl, hb2, ho2⟩)
            go_ret
            exact ⟨rfl, hbel.trans (ho2.below hB)⟩
          · obtain ⟨hon', hr⟩ := step_on hon (s[k].toNat : Int) ((k : Int) + 1) l (by omega) hc1 (by omega) (by omega) hz h62
            have hb62 : ((s[k].toNat : Int) == 62) = false := beq_eq_false_iff_ne.2 h62
            clear h62 hz p1 p2 p3
            go_wp2_with (go_at_call 22; refine (Tag.zzTagStep w1.heap.size m _ _ _ _ hbox hfit (by omega) hc1).mono ?_; rintro e w2 ⟨rfl, hb2, ho2⟩)
            go_roundw
            case rel => exact ⟨k + 1, _, by omega, by go_num, hb2, hon', hbel.trans (ho2.below hB)⟩
            case measure => simp [intOf]; omega
        · go_wp2
          go_ret
          exact ⟨rfl, hbel⟩
end TagFirst
end Go.Proofs.Qxb6000730a

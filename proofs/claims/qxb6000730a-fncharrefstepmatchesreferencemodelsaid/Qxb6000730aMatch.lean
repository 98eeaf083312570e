/-
  ZZCharRefName; FnCharRefStepMatchesReferenceModel: the walk.
-/
import Derived.Test.Qxb6000730aModel
namespace Go.Proofs.Qxb6000730a
open Go.ChangeShapes Go.WideShapes Go.ChangeAt Go.RowKit
namespace Match
open Ref (r0 R Box Fit)
open Num (lst)
open Run (names)
set_option linter.unusedVariables false

theorem str_lst (t : ByteArray) : strOfNums (lst t) = t := by
  unfold strOfNums lst
  rw [List.map_map]
  have : (t.data.toList.map ((fun n : Int => UInt8.ofNat n.toNat) ∘ fun b => (b.toNat : Int))) = t.data.toList := by
    conv => rhs; rw [← List.map_id t.data.toList]
    refine List.map_congr_left fun b _ => ?_
    simp
  rw [this]

theorem zzName (b : Nat) (r : R) (w : World) (hb : Box b r w) (hn : r.n ≤ 32) : Calls Try.prog 16 #[.pointer (some ⟨b, 0, none⟩)] w fun e w' => e = .returned (.string (strOfNums (names r))) ∧ Below w.heap.size w w' := by
  have hcell : ∀ i, i < r.n → w.cell? ⟨b, 2 + i, none⟩ = some (.int .u8 ((names r).getD i 0)) := by
    intro i hi
    rw [hb.name i (by omega)]
    simp [names, hi]
  have hlen : (names r).length = r.n := by simp [names]
  have c1 := run_convert_bytes_arg (P := Try.prog) w 35 5 Try.underlying35 Try.underlying5 b 2 r.n 32 (names r) hlen hcell 9 Try.underlying9
  have c2 := run_convert_bytes_arg (P := Try.prog) w.drew 35 5 Try.underlying35 Try.underlying5 b 2 r.n 32 (names r) hlen hcell 9 Try.underlying9
  have h34 := hb.n
  clear hcell hlen
  generalize strOfNums (names r) = t at c1 c2 ⊢
  have hn0 : (r.n : Int) ≤ 32 := by omega
  go_enter Try.func16, Try.ntmps16
  go_wp2
  go_region
  all_goals (try go_wp2)
  all_goals
    go_ret
    exact ⟨rfl, (Below.refl _ _).drew⟩

theorem zzName' (b : Nat) (r : R) (t : ByteArray) (w : World) (hb : Box b r w) (hn : r.n ≤ 32) (ht : lst t = names r) : Calls Try.prog 16 #[.pointer (some ⟨b, 0, none⟩)] w fun e w' => e = .returned (.string t) ∧ Below w.heap.size w w' := by
  have h := zzName b r w hb hn
  rw [← ht, str_lst] at h
  exact h

theorem model (s : ByteArray) (w : World) (hm : s.size ≤ 65536) (e : Int) (tk : Bool) (r : R) (hF : Run.run r0 0 (lst s) = (e, tk, r)) :
    Calls Try.prog 14 #[.string s] w fun x w' => ∃ t, x = .returned (.tuple #[.int .i64 e, .bool tk, .int .i64 r.value, .string t]) ∧ lst t = names r ∧ Below w.heap.size w w' := Model.all s w hm e tk r hF

theorem box_below {b : Nat} {r : R} {w w' : World} (h : Box b r w) (hb : Below w.heap.size w w') : Box b r w' := by
  have hlt : b < w.heap.size := block_lt_of_cell h.st
  have hc : ∀ o, w'.cell? ⟨b, o, none⟩ = w.cell? ⟨b, o, none⟩ := fun o => hb.cell (p := ⟨b, o, none⟩) hlt
  have hf : ∀ o, w'.frozen? ⟨b, o, none⟩ = w.frozen? ⟨b, o, none⟩ := fun o => hb.frozen (p := ⟨b, o, none⟩) hlt
  obtain ⟨x, hx⟩ := h.x
  obtain ⟨y, hy⟩ := h.semi
  exact ⟨fun o => (hf o).trans (h.free o), (hc _).trans h.st, (hc _).trans h.value, fun j hj => (hc _).trans (h.name j hj), (hc _).trans h.n, ⟨x, (hc _).trans hx⟩, ⟨y, (hc _).trans hy⟩⟩

theorem taken_on (r : R) (c : Int) (h : (Ref.step r c).2.1 = false) : (Ref.step r c).2.2 = true := by
  revert h
  unfold Ref.step
  repeat' split
  all_goals simp

theorem bytes_yes (s : ByteArray) (w : World) (h : s.size ≤ 1048576) : Calls Try.prog 12 #[.string s] w fun e w' => e = .returned (.bool true) ∧ w = w' := by
  go_enter Try.func12, Try.ntmps12
  go_wp2
  go_ret
  exact ⟨rfl, rfl⟩
theorem bytes_no (s : ByteArray) (w : World) (hm : s.size ≤ maxLen) (h : 1048576 < s.size) : Calls Try.prog 12 #[.string s] w fun e w' => e = .returned (.bool false) ∧ w = w' := by
  unfold maxLen at hm
  go_enter Try.func12, Try.ntmps12
  go_wp2
  go_ret
  exact ⟨rfl, rfl⟩

theorem long_str (s : ByteArray) (w : World) (hm : s.size ≤ maxLen) (h : 1048576 < s.size) : Calls Try.prog 3 #[.string s] w fun e w' => e = .returned (.bool true) ∧ Below w.heap.size w w' := by
  go_enter Try.func3, Try.ntmps3
  go_wp2_with (go_at_call 12; refine (bytes_no _ _ hm h).mono ?_; rintro e w' ⟨rfl, rfl⟩)
  go_ret
  exact ⟨rfl, Below.refl _ _⟩
theorem mid_str (s : ByteArray) (w : World) (h : s.size ≤ 1048576) (h2 : 65536 < s.size) : Calls Try.prog 3 #[.string s] w fun e w' => e = .returned (.bool true) ∧ Below w.heap.size w w' := by
  go_enter Try.func3, Try.ntmps3
  go_wp2_with (go_at_call 12; refine (bytes_yes _ _ h).mono ?_; rintro e w' ⟨rfl, rfl⟩)
  go_ret
  exact ⟨rfl, Below.refl _ _⟩

set_option maxRecDepth 100000 in
set_option maxHeartbeats 1600000 in
theorem short_str (s : ByteArray) (w : World) (hs : s.size ≤ 65536) : Calls Try.prog 3 #[.string s] w fun e w' => e = .returned (.bool true) ∧ Below w.heap.size w w' := by
  obtain ⟨F, hF⟩ : ∃ F, F = Run.run r0 0 (lst s) := ⟨_, rfl⟩
  obtain ⟨f1, f2, f3⟩ := F
  have HF : Hid (Run.run r0 0 (lst s) = (f1, f2, f3)) := hF.symm
  clear hF
  go_enter Try.func3, Try.ntmps3
  go_wp2_with (go_at_call 12; refine (bytes_yes _ _ (by omega)).mono ?_; rintro e w' ⟨rfl, rfl⟩)
  go_loopw [4, 5, 6] (fun ev tv iv wr => ∃ (k : Nat) (r : R), ev = .int .i64 (-1) ∧ tv = .bool false ∧ iv = .int .i64 k ∧ k ≤ s.size ∧ Box w.heap.size r wr ∧ Fit r ∧ Hid (Run.run r k ((lst s).drop k) = (f1, f2, f3)) ∧ Below w.heap.size w wr) (fun _ _ iv _ => s.size - (intOf iv).toNat)
  case atStart => exact ⟨0, r0, rfl, rfl, rfl, Nat.zero_le _, Ref.fresh_box (heap_alloc_new _ _), Ref.fit0, HF, (Below.refl _ _).alloc (Nat.le_refl _) _⟩
  case round =>
    obtain ⟨k, r, rfl, rfl, rfl, hk, hb, hfit, hf, hbel⟩ := hrel
    have hB := hbel.size
    by_cases hlt : k < s.size
    · have c1 : (s[k].toNat : Int) ≤ 255 := Model.byte_le s k hlt
      have hf2 := hf.out
      rw [Model.drop_get s k hlt, Run.run] at hf2
      have hst := Ref.zzStep w.heap.size r (s[k].toNat : Int) wr hb hfit (by omega) c1
      have hft := Ref.step_fit hfit (s[k].toNat : Int) (by omega)
      have hto := taken_on r (s[k].toNat : Int)
      clear hf
      generalize Ref.step r (s[k].toNat : Int) = t at hst hft hf2 hto
      obtain ⟨r', x, y⟩ := t
      cases x with
      | true =>
        simp only [if_true, Prod.mk.injEq] at hf2
        obtain ⟨rfl, rfl, rfl⟩ := hf2
        simp only at hst
        clear hto
        go_wp2_with (first
          | (go_at_call 13; refine hst.mono ?_; rintro e w1 ⟨rfl, hb1, ho1⟩; clear hst; have hbel1 := hbel.trans (ho1.below (Nat.le_refl _)); have hB1 := hbel1.size)
          | (go_at_call 14; refine (model s w1 hs _ _ _ HF.out).mono ?_; rintro e w2 ⟨t, rfl, ht, hb2⟩; have HT := hb1; have hbox2 := box_below hb1 hb2; have HTT : Hid (lst t = names r') := ht; clear ht; have hbel2 := hbel1.trans (hb2.mono hB1); have hB2 := hbel2.size)
          | (go_at_call 15; refine (Ref.zzValue w.heap.size r' _ hbox2).mono ?_; rintro e w3 ⟨rfl, rfl⟩)
          | (go_at_call 16; refine (zzName' w.heap.size r' t _ hbox2 hft.n1 HTT.out).mono ?_; rintro e w4 ⟨rfl, hb4⟩; have hbel4 := hbel2.trans (hb4.mono hB2)))
        go_ret
        exact ⟨rfl, hbel4⟩
      | false =>
        simp only [Bool.false_eq_true, if_false] at hf2
        have hy := hto rfl
        simp only at hy hst
        subst hy
        have HF2 : Hid (Run.run r' (((k + 1 : Nat) : Int)) ((lst s).drop (k + 1)) = (f1, f2, f3)) := hf2
        clear hf2 hto
        go_wp2_with (go_at_call 13; refine hst.mono ?_; rintro e w1 ⟨rfl, hb1, ho1⟩)
        go_roundw
        case rel => exact ⟨k + 1, r', rfl, rfl, by go_num, by omega, hb1, hft, HF2, hbel.trans (ho1.below (Nat.le_refl _))⟩
        case measure => simp [intOf]; omega
    · have hf2 := hf.out
      rw [List.drop_of_length_le (by rw [Num.lst_length]; omega), Run.run] at hf2
      simp only [Prod.mk.injEq] at hf2
      obtain ⟨rfl, rfl, rfl⟩ := hf2
      clear hf
      go_wp2_with (first
        | (go_at_call 14; refine (model s wr hs _ _ _ HF.out).mono ?_; rintro e w2 ⟨t, rfl, ht, hb2⟩; have hbox2 := box_below hb hb2; have HTT : Hid (lst t = names r) := ht; clear ht; have hbel2 := hbel.trans (hb2.mono hB); have hB2 := hbel2.size)
        | (go_at_call 15; refine (Ref.zzValue w.heap.size r _ hbox2).mono ?_; rintro e w3 ⟨rfl, rfl⟩)
        | (go_at_call 16; refine (zzName' w.heap.size r t _ hbox2 hfit.n1 HTT.out).mono ?_; rintro e w4 ⟨rfl, hb4⟩; have hbel4 := hbel2.trans (hb4.mono hB2)))
      go_ret
      exact ⟨rfl, hbel4⟩

end Match
end Go.Proofs.Qxb6000730a

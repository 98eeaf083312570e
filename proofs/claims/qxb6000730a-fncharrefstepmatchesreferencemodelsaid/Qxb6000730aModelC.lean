/-
  zzRefModel: a number's digits.
-/
import Derived.Test.Qxb6000730aModelB
import Derived.WalkSpells
namespace Go.Proofs.Qxb6000730a
open Go.ChangeShapes Go.WideShapes Go.ChangeAt Go.RowKit
namespace Model
open Ref (hx nm cap r0 R)
open Num (lst)
open Run (names)
set_option linter.unusedVariables false

/-- From place a on, up to place k, digits of the base bs. -/
def DgTo (bs : Nat) (L : List Int) (a k : Nat) : Prop := ∀ c ∈ (L.drop a).take (k - a), 0 ≤ c ∧ 0 ≤ hx c ∧ hx c < bs

theorem DgTo.start (bs : Nat) (L : List Int) (a : Nat) : DgTo bs L a a := by intro c hc; rw [Nat.sub_self] at hc; simp at hc
theorem take_drop_get (s : ByteArray) (a k : Nat) (ha : a ≤ k) (h : k < s.size) : ((lst s).drop a).take (k + 1 - a) = ((lst s).drop a).take (k - a) ++ [(s[k].toNat : Int)] := by
  have hl : k - a < ((lst s).drop a).length := by rw [List.length_drop, Num.lst_length]; omega
  rw [show k + 1 - a = (k - a) + 1 by omega, List.take_succ_eq_append_getElem hl, List.getElem_drop]
  congr 2
  have e : a + (k - a) = k := by omega
  have := Num.lst_get s k h
  simp only [e]
  exact this
theorem DgTo.next {bs : Nat} {s : ByteArray} {a k : Nat} (hd : DgTo bs (lst s) a k) (ha : a ≤ k) (h : k < s.size) (h1 : 0 ≤ hx (s[k].toNat : Int)) (h2 : hx (s[k].toNat : Int) < bs) : DgTo bs (lst s) a (k + 1) := by
  intro c hc
  rw [take_drop_get s a k ha h] at hc
  rcases List.mem_append.1 hc with hc | hc
  · exact hd c hc
  · simp at hc; subst hc; exact ⟨by omega, h1, h2⟩
theorem split_at (s : ByteArray) (a k : Nat) (ha : a ≤ k) (h : k < s.size) : (lst s).drop a = ((lst s).drop a).take (k - a) ++ (s[k].toNat : Int) :: (lst s).drop (k + 1) := by
  conv => lhs; rw [← List.take_append_drop (k - a) ((lst s).drop a)]
  rw [List.drop_drop, show a + (k - a) = k by omega, drop_get s k h]
theorem lst_cut (s : ByteArray) (a k : Nat) : lst (s.extract a k) = ((lst s).drop a).take (k - a) := Num.lst_extract s a k

theorem at_stop10 (s : ByteArray) (k : Nat) (ha : 1 < k) (hlt : k < s.size) (hL : lst s = 35 :: (lst s).drop 1) (hd : DgTo 10 (lst s) 1 k) (hst : ¬ (48 ≤ (s[k].toNat : Int) ∧ (s[k].toNat : Int) ≤ 57)) (e : Int) (tk : Bool) (r : R) (hF : Run.run r0 0 (lst s) = (e, tk, r)) :
    e = k ∧ tk = ((s[k].toNat : Int) == 59) ∧ r.value = cap (Dig.read 10 0 (lst (s.extract 1 k)) : Nat) ∧ names r = [] := by
  have hl : (((lst s).drop 1).take (k - 1)).length = k - 1 := by rw [List.length_take, List.length_drop, Num.lst_length]; omega
  obtain ⟨r', h1, h2, h3, h4⟩ := Run.c_dec (((lst s).drop 1).take (k - 1)) ((s[k].toNat : Int) :: (lst s).drop (k + 1)) (by intro e; rw [e] at hl; simp at hl; omega) (fun c hc => (hd c hc).2)
  rw [← split_at s 1 k (by omega) hlt, ← hL, hF, Run.stop3 h1 _ _ _ hst] at h4
  simp only [Prod.mk.injEq] at h4
  obtain ⟨rfl, rfl, rfl⟩ := h4
  refine ⟨by rw [hl]; omega, rfl, by rw [h2, lst_cut], h3⟩
theorem at_end10 (s : ByteArray) (ha : 1 < s.size) (hL : lst s = 35 :: (lst s).drop 1) (hd : DgTo 10 (lst s) 1 s.size) (e : Int) (tk : Bool) (r : R) (hF : Run.run r0 0 (lst s) = (e, tk, r)) :
    e = -1 ∧ tk = false ∧ r.value = cap (Dig.read 10 0 (lst (s.extract 1 s.size)) : Nat) ∧ names r = [] := by
  have hl : (((lst s).drop 1).take (s.size - 1)).length = s.size - 1 := by rw [List.length_take, List.length_drop, Num.lst_length]; omega
  obtain ⟨r', h1, h2, h3, h4⟩ := Run.c_dec (((lst s).drop 1).take (s.size - 1)) [] (by intro e; rw [e] at hl; simp at hl; omega) (fun c hc => (hd c hc).2)
  rw [List.append_nil, List.take_of_length_le (by rw [List.length_drop, Num.lst_length]; omega), ← hL, hF, Run.run] at h4
  simp only [Prod.mk.injEq] at h4
  obtain ⟨rfl, rfl, rfl⟩ := h4
  exact ⟨rfl, rfl, by rw [h2, lst_cut], h3⟩
theorem cut_rng10 (s : ByteArray) (k : Nat) (hd : DgTo 10 (lst s) 1 k) : ∀ c ∈ lst (s.extract 1 k), 0 ≤ c ∧ 0 ≤ hx c ∧ hx c < (10 : Nat) := by rw [lst_cut]; exact hd
theorem cut_size10 (s : ByteArray) (k : Nat) (hm : s.size ≤ 65536) : (s.extract 1 k).size ≤ 65536 := by
  rw [← Num.lst_length, lst_cut, List.length_take, List.length_drop, Num.lst_length]; omega

set_option maxRecDepth 100000 in
set_option maxHeartbeats 1600000 in
theorem dec (s : ByteArray) (w : World) (hm : s.size ≤ 65536) (h : 1 < s.size) (h35 : (s[0].toNat : Int) = 35) (d1 : 48 ≤ (s[1].toNat : Int)) (d2 : (s[1].toNat : Int) ≤ 57) (e : Int) (tk : Bool) (r : R) (hF : Run.run r0 0 (lst s) = (e, tk, r)) : Says s w e tk r := by
  have HF : Hid (Run.run r0 0 (lst s) = (e, tk, r)) := hF
  clear hF
  have hL : lst s = 35 :: (lst s).drop 1 := by
    have h3 := lst_cons s (by omega)
    rw [h35] at h3
    exact h3
  have hb2 : ((s[0].toNat : Int) != 35) = false := by rw [h35]; rfl
  have hfirst : Hid (¬ ¬ (48 ≤ (s[1].toNat : Int) ∧ (s[1].toNat : Int) ≤ 57)) := fun hc => hc ⟨d1, d2⟩
  clear h35
  have HL : Hid (lst s = 35 :: (lst s).drop 1) := hL
  clear hL
  have hb : ((s.size : Int) == 0) = false := beq_eq_false_iff_ne.2 (by omega)
  have hb1 : ((s.size : Int) == 1) = false := beq_eq_false_iff_ne.2 (by omega)
  unfold Says
  have tok1 : True := trivial
  go_enter Try.func14, Try.ntmps14
  go_wp2_with (go_at_call 35; have _t := tok1; refine (Num.digit10_yes _ _ d1 d2).mono ?_; rintro e w' ⟨rfl, rfl⟩; clear tok1)
  clear d1 d2
  go_loop [10] (fun j => ∃ k : Nat, 1 ≤ k ∧ k ≤ s.size ∧ j = .int .i64 k ∧ DgTo 10 (lst s) 1 k) (fun j => s.size - (intOf j).toNat)
  case atStart => exact ⟨1, Nat.le_refl _, by omega, rfl, DgTo.start _ _ _⟩
  case round =>
    obtain ⟨k, hk1, hk, rfl, hd⟩ := hrel
    by_cases hlt : k < s.size
    · have hle := byte_le s k hlt
      by_cases hdg : 48 ≤ (s[k].toNat : Int) ∧ (s[k].toNat : Int) ≤ 57
      · skip
        obtain ⟨q1, q2⟩ := hdg
        have q3 : hx (s[k].toNat : Int) = (s[k].toNat : Int) - 48 := by unfold Ref.hx; rw [if_pos ⟨q1, q2⟩]
        have hnext := hd.next hk1 hlt (by omega) (by omega)
        clear q3
        go_wp2_with (go_at_call 35; refine (Num.digit10_yes _ _ q1 q2).mono ?_; rintro e w' ⟨rfl, rfl⟩)
        go_round
        case rel => exact ⟨k + 1, by omega, by omega, by go_num, hnext⟩
        case measure => simp [intOf]; omega
      · have HD : Hid (¬ (48 ≤ (s[k].toNat : Int) ∧ (s[k].toNat : Int) ≤ 57)) := by unfold Hid; omega
        have hgt : 1 < k := by
          rcases Nat.lt_or_ge 1 k with hh | hh
          · exact hh
          · have e1 : k = 1 := by omega
            subst e1
            first | exact absurd HD.out hfirst.out | (have h1 := hfirst.out; have h2 := HD.out; omega)
        clear hdg
        obtain ⟨rfl, rfl, hv, hnames⟩ := at_stop10 s k hgt hlt HL.out hd HD.out e tk r HF.out
        have HV : Hid (r.value = cap (Dig.read 10 0 (lst (s.extract 1 k)) : Nat)) := hv
        have HNM : Hid (names r = []) := hnames
        clear HF hv hnames
        have hkn : ((k : Int) == (s.size : Int)) = false := beq_eq_false_iff_ne.2 (by omega)
        have hki : (k : Int) < (s.size : Int) := by omega
        go_wp2_with (first | (go_at_call 35; refine (Num.digit10_no _ _ (by omega) hle HD.out).mono ?_; rintro e w' ⟨rfl, rfl⟩) | (go_at_call 36; refine (Num.number10 (s.extract 1 k) _ (cut_size10 s k hm) (cut_rng10 s k hd)).mono ?_; rintro e w' ⟨rfl, rfl⟩))
        go_region
        all_goals (try go_wp2)
        all_goals
          refine bodyPost_ret (results_tmp4 rfl _ _ _) rfl ?_
          exact ⟨⟨#[]⟩, by rw [HV.out]; rfl, HNM.out.symm, (Below.refl _ _).drew⟩
    · have hkn : k = s.size := by omega
      subst hkn
      obtain ⟨rfl, rfl, hv, hnames⟩ := at_end10 s (by omega) HL.out hd e tk r HF.out
      have HV : Hid (r.value = cap (Dig.read 10 0 (lst (s.extract 1 s.size)) : Nat)) := hv
      have HNM : Hid (names r = []) := hnames
      clear HF hv hnames
      go_wp2_with (go_at_call 36; refine (Num.number10 (s.extract 1 s.size) _ (cut_size10 s s.size hm) (cut_rng10 s s.size hd)).mono ?_; rintro e w' ⟨rfl, rfl⟩)
      refine bodyPost_ret (results_tmp4 rfl _ _ _) rfl ?_
      exact ⟨⟨#[]⟩, by rw [HV.out]; rfl, HNM.out.symm, Below.refl _ _⟩

theorem at_stop16 (s : ByteArray) (x : Int) (hx1 : x = 120 ∨ x = 88) (k : Nat) (ha : 2 < k) (hlt : k < s.size) (hL : lst s = 35 :: x :: (lst s).drop 2) (hd : DgTo 16 (lst s) 2 k) (hst : hx (s[k].toNat : Int) < 0) (e : Int) (tk : Bool) (r : R) (hF : Run.run r0 0 (lst s) = (e, tk, r)) :
    e = k ∧ tk = ((s[k].toNat : Int) == 59) ∧ r.value = cap (Dig.read 16 0 (lst (s.extract 2 k)) : Nat) ∧ names r = [] := by
  have hl : (((lst s).drop 2).take (k - 2)).length = k - 2 := by rw [List.length_take, List.length_drop, Num.lst_length]; omega
  obtain ⟨r', h1, h2, h3, h4⟩ := Run.c_hex x hx1 (((lst s).drop 2).take (k - 2)) ((s[k].toNat : Int) :: (lst s).drop (k + 1)) (by intro e; rw [e] at hl; simp at hl; omega) (fun c hc => (hd c hc).2)
  rw [← split_at s 2 k (by omega) hlt, ← hL, hF, Run.stop4 h1 _ _ _ hst] at h4
  simp only [Prod.mk.injEq] at h4
  obtain ⟨rfl, rfl, rfl⟩ := h4
  refine ⟨by rw [hl]; omega, rfl, by rw [h2, lst_cut], h3⟩
theorem at_end16 (s : ByteArray) (x : Int) (hx1 : x = 120 ∨ x = 88) (ha : 2 < s.size) (hL : lst s = 35 :: x :: (lst s).drop 2) (hd : DgTo 16 (lst s) 2 s.size) (e : Int) (tk : Bool) (r : R) (hF : Run.run r0 0 (lst s) = (e, tk, r)) :
    e = -1 ∧ tk = false ∧ r.value = cap (Dig.read 16 0 (lst (s.extract 2 s.size)) : Nat) ∧ names r = [] := by
  have hl : (((lst s).drop 2).take (s.size - 2)).length = s.size - 2 := by rw [List.length_take, List.length_drop, Num.lst_length]; omega
  obtain ⟨r', h1, h2, h3, h4⟩ := Run.c_hex x hx1 (((lst s).drop 2).take (s.size - 2)) [] (by intro e; rw [e] at hl; simp at hl; omega) (fun c hc => (hd c hc).2)
  rw [List.append_nil, List.take_of_length_le (by rw [List.length_drop, Num.lst_length]; omega), ← hL, hF, Run.run] at h4
  simp only [Prod.mk.injEq] at h4
  obtain ⟨rfl, rfl, rfl⟩ := h4
  exact ⟨rfl, rfl, by rw [h2, lst_cut], h3⟩
theorem cut_rng16 (s : ByteArray) (k : Nat) (hd : DgTo 16 (lst s) 2 k) : ∀ c ∈ lst (s.extract 2 k), 0 ≤ c ∧ 0 ≤ hx c ∧ hx c < (16 : Nat) := by rw [lst_cut]; exact hd
theorem cut_size16 (s : ByteArray) (k : Nat) (hm : s.size ≤ 65536) : (s.extract 2 k).size ≤ 65536 := by
  rw [← Num.lst_length, lst_cut, List.length_take, List.length_drop, Num.lst_length]; omega

set_option maxRecDepth 100000 in
set_option maxHeartbeats 1600000 in
theorem hex120 (s : ByteArray) (w : World) (hm : s.size ≤ 65536) (h : 2 < s.size) (h35 : (s[0].toNat : Int) = 35) (hxx : (s[1].toNat : Int) = 120) (hok : 0 ≤ hx (s[2].toNat : Int)) (e : Int) (tk : Bool) (r : R) (hF : Run.run r0 0 (lst s) = (e, tk, r)) : Says s w e tk r := by
  have HF : Hid (Run.run r0 0 (lst s) = (e, tk, r)) := hF
  clear hF
  have hL : lst s = 35 :: 120 :: (lst s).drop 2 := by
    have h3 := lst2 s (by omega)
    rw [h35, hxx] at h3
    exact h3
  have hb2 : ((s[0].toNat : Int) != 35) = false := by rw [h35]; rfl
  have hb22 : ((s.size : Int) == 2) = false := beq_eq_false_iff_ne.2 (by omega)
  have hx1 : ((s[1].toNat : Int) != 120) = false := by rw [hxx]; rfl
  have hx2 : ((s[1].toNat : Int) != 88) = true := by rw [hxx]; rfl
  have HDX : Hid (¬ (48 ≤ (s[1].toNat : Int) ∧ (s[1].toNat : Int) ≤ 57)) := by unfold Hid; omega
  have hle1 := byte_le s 1 (by omega)
  have hle2 := byte_le s 2 h
  have hfirst : Hid (¬ hx (s[2].toNat : Int) < 0) := by unfold Hid; omega
  clear h35 hxx
  have HL : Hid (lst s = 35 :: 120 :: (lst s).drop 2) := hL
  clear hL
  have hb : ((s.size : Int) == 0) = false := beq_eq_false_iff_ne.2 (by omega)
  have hb1 : ((s.size : Int) == 1) = false := beq_eq_false_iff_ne.2 (by omega)
  unfold Says
  have tok1 : True := trivial
  have tok2 : True := trivial
  go_enter Try.func14, Try.ntmps14
  go_wp2_with (first | (go_at_call 35; have _t := tok1; refine (Num.digit10_no _ _ (by omega) hle1 HDX.out).mono ?_; rintro e w' ⟨rfl, rfl⟩; clear tok1) | (go_at_call 35; have _t := tok2; refine (Num.digit16_yes _ _ (by omega) hle2 hok).mono ?_; rintro e w' ⟨rfl, rfl⟩; clear tok2))
  clear hok
  go_loop [10] (fun j => ∃ k : Nat, 2 ≤ k ∧ k ≤ s.size ∧ j = .int .i64 k ∧ DgTo 16 (lst s) 2 k) (fun j => s.size - (intOf j).toNat)
  case atStart => exact ⟨2, Nat.le_refl _, by omega, rfl, DgTo.start _ _ _⟩
  case round =>
    obtain ⟨k, hk1, hk, rfl, hd⟩ := hrel
    by_cases hlt : k < s.size
    · have hle := byte_le s k hlt
      by_cases hdg : 0 ≤ hx (s[k].toNat : Int)
      · skip
        have hnext := hd.next hk1 hlt hdg (by have := (Ref.hx_le (s[k].toNat : Int)).2; omega)
        go_wp2_with (go_at_call 35; refine (Num.digit16_yes _ _ (by omega) hle hdg).mono ?_; rintro e w' ⟨rfl, rfl⟩)
        go_round
        case rel => exact ⟨k + 1, by omega, by omega, by go_num, hnext⟩
        case measure => simp [intOf]; omega
      · have HD : Hid (hx (s[k].toNat : Int) < 0) := by unfold Hid; omega
        have hgt : 2 < k := by
          rcases Nat.lt_or_ge 2 k with hh | hh
          · exact hh
          · have e1 : k = 2 := by omega
            subst e1
            first | exact absurd HD.out hfirst.out | (have h1 := hfirst.out; have h2 := HD.out; omega)
        clear hdg
        obtain ⟨rfl, rfl, hv, hnames⟩ := at_stop16 s 120 (Or.inl rfl) k hgt hlt HL.out hd HD.out e tk r HF.out
        have HV : Hid (r.value = cap (Dig.read 16 0 (lst (s.extract 2 k)) : Nat)) := hv
        have HNM : Hid (names r = []) := hnames
        clear HF hv hnames
        have hkn : ((k : Int) == (s.size : Int)) = false := beq_eq_false_iff_ne.2 (by omega)
        have hki : (k : Int) < (s.size : Int) := by omega
        go_wp2_with (first | (go_at_call 35; refine (Num.digit16_no _ _ (by omega) hle HD.out).mono ?_; rintro e w' ⟨rfl, rfl⟩) | (go_at_call 36; refine (Num.number16 (s.extract 2 k) _ (cut_size16 s k hm) (cut_rng16 s k hd)).mono ?_; rintro e w' ⟨rfl, rfl⟩))
        go_region
        all_goals (try go_wp2)
        all_goals
          refine bodyPost_ret (results_tmp4 rfl _ _ _) rfl ?_
          exact ⟨⟨#[]⟩, by rw [HV.out]; rfl, HNM.out.symm, (Below.refl _ _).drew⟩
    · have hkn : k = s.size := by omega
      subst hkn
      obtain ⟨rfl, rfl, hv, hnames⟩ := at_end16 s 120 (Or.inl rfl) (by omega) HL.out hd e tk r HF.out
      have HV : Hid (r.value = cap (Dig.read 16 0 (lst (s.extract 2 s.size)) : Nat)) := hv
      have HNM : Hid (names r = []) := hnames
      clear HF hv hnames
      go_wp2_with (go_at_call 36; refine (Num.number16 (s.extract 2 s.size) _ (cut_size16 s s.size hm) (cut_rng16 s s.size hd)).mono ?_; rintro e w' ⟨rfl, rfl⟩)
      refine bodyPost_ret (results_tmp4 rfl _ _ _) rfl ?_
      exact ⟨⟨#[]⟩, by rw [HV.out]; rfl, HNM.out.symm, Below.refl _ _⟩

set_option maxRecDepth 100000 in
set_option maxHeartbeats 1600000 in
theorem hex88 (s : ByteArray) (w : World) (hm : s.size ≤ 65536) (h : 2 < s.size) (h35 : (s[0].toNat : Int) = 35) (hxx : (s[1].toNat : Int) = 88) (hok : 0 ≤ hx (s[2].toNat : Int)) (e : Int) (tk : Bool) (r : R) (hF : Run.run r0 0 (lst s) = (e, tk, r)) : Says s w e tk r := by
  have HF : Hid (Run.run r0 0 (lst s) = (e, tk, r)) := hF
  clear hF
  have hL : lst s = 35 :: 88 :: (lst s).drop 2 := by
    have h3 := lst2 s (by omega)
    rw [h35, hxx] at h3
    exact h3
  have hb2 : ((s[0].toNat : Int) != 35) = false := by rw [h35]; rfl
  have hb22 : ((s.size : Int) == 2) = false := beq_eq_false_iff_ne.2 (by omega)
  have hx1 : ((s[1].toNat : Int) != 120) = true := by rw [hxx]; rfl
  have hx2 : ((s[1].toNat : Int) != 88) = false := by rw [hxx]; rfl
  have HDX : Hid (¬ (48 ≤ (s[1].toNat : Int) ∧ (s[1].toNat : Int) ≤ 57)) := by unfold Hid; omega
  have hle1 := byte_le s 1 (by omega)
  have hle2 := byte_le s 2 h
  have hfirst : Hid (¬ hx (s[2].toNat : Int) < 0) := by unfold Hid; omega
  clear h35 hxx
  have HL : Hid (lst s = 35 :: 88 :: (lst s).drop 2) := hL
  clear hL
  have hb : ((s.size : Int) == 0) = false := beq_eq_false_iff_ne.2 (by omega)
  have hb1 : ((s.size : Int) == 1) = false := beq_eq_false_iff_ne.2 (by omega)
  unfold Says
  have tok1 : True := trivial
  have tok2 : True := trivial
  go_enter Try.func14, Try.ntmps14
  go_wp2_with (first | (go_at_call 35; have _t := tok1; refine (Num.digit10_no _ _ (by omega) hle1 HDX.out).mono ?_; rintro e w' ⟨rfl, rfl⟩; clear tok1) | (go_at_call 35; have _t := tok2; refine (Num.digit16_yes _ _ (by omega) hle2 hok).mono ?_; rintro e w' ⟨rfl, rfl⟩; clear tok2))
  clear hok
  go_loop [10] (fun j => ∃ k : Nat, 2 ≤ k ∧ k ≤ s.size ∧ j = .int .i64 k ∧ DgTo 16 (lst s) 2 k) (fun j => s.size - (intOf j).toNat)
  case atStart => exact ⟨2, Nat.le_refl _, by omega, rfl, DgTo.start _ _ _⟩
  case round =>
    obtain ⟨k, hk1, hk, rfl, hd⟩ := hrel
    by_cases hlt : k < s.size
    · have hle := byte_le s k hlt
      by_cases hdg : 0 ≤ hx (s[k].toNat : Int)
      · skip
        have hnext := hd.next hk1 hlt hdg (by have := (Ref.hx_le (s[k].toNat : Int)).2; omega)
        go_wp2_with (go_at_call 35; refine (Num.digit16_yes _ _ (by omega) hle hdg).mono ?_; rintro e w' ⟨rfl, rfl⟩)
        go_round
        case rel => exact ⟨k + 1, by omega, by omega, by go_num, hnext⟩
        case measure => simp [intOf]; omega
      · have HD : Hid (hx (s[k].toNat : Int) < 0) := by unfold Hid; omega
        have hgt : 2 < k := by
          rcases Nat.lt_or_ge 2 k with hh | hh
          · exact hh
          · have e1 : k = 2 := by omega
            subst e1
            first | exact absurd HD.out hfirst.out | (have h1 := hfirst.out; have h2 := HD.out; omega)
        clear hdg
        obtain ⟨rfl, rfl, hv, hnames⟩ := at_stop16 s 88 (Or.inr rfl) k hgt hlt HL.out hd HD.out e tk r HF.out
        have HV : Hid (r.value = cap (Dig.read 16 0 (lst (s.extract 2 k)) : Nat)) := hv
        have HNM : Hid (names r = []) := hnames
        clear HF hv hnames
        have hkn : ((k : Int) == (s.size : Int)) = false := beq_eq_false_iff_ne.2 (by omega)
        have hki : (k : Int) < (s.size : Int) := by omega
        go_wp2_with (first | (go_at_call 35; refine (Num.digit16_no _ _ (by omega) hle HD.out).mono ?_; rintro e w' ⟨rfl, rfl⟩) | (go_at_call 36; refine (Num.number16 (s.extract 2 k) _ (cut_size16 s k hm) (cut_rng16 s k hd)).mono ?_; rintro e w' ⟨rfl, rfl⟩))
        go_region
        all_goals (try go_wp2)
        all_goals
          refine bodyPost_ret (results_tmp4 rfl _ _ _) rfl ?_
          exact ⟨⟨#[]⟩, by rw [HV.out]; rfl, HNM.out.symm, (Below.refl _ _).drew⟩
    · have hkn : k = s.size := by omega
      subst hkn
      obtain ⟨rfl, rfl, hv, hnames⟩ := at_end16 s 88 (Or.inr rfl) (by omega) HL.out hd e tk r HF.out
      have HV : Hid (r.value = cap (Dig.read 16 0 (lst (s.extract 2 s.size)) : Nat)) := hv
      have HNM : Hid (names r = []) := hnames
      clear HF hv hnames
      go_wp2_with (go_at_call 36; refine (Num.number16 (s.extract 2 s.size) _ (cut_size16 s s.size hm) (cut_rng16 s s.size hd)).mono ?_; rintro e w' ⟨rfl, rfl⟩)
      refine bodyPost_ret (results_tmp4 rfl _ _ _) rfl ?_
      exact ⟨⟨#[]⟩, by rw [HV.out]; rfl, HNM.out.symm, Below.refl _ _⟩

end Model
end Go.Proofs.Qxb6000730a

/-
  zzNumberValue: a run of digits gives its number, capped.
-/
import Derived.Test.Qxb6000730aNum
namespace Go.Proofs.Qxb6000730a
open Go.ChangeShapes Go.WideShapes Go.ChangeAt Go.RowKit
namespace Num
open Ref (hx cap)
set_option linter.unusedVariables false

/-- Where the zeros end. -/
def Ends (L : List Int) (k : Nat) : Prop := ∀ h : k < L.length, L[k] ≠ 48

theorem take_next (bs : Nat) (L : List Int) (j : Nat) (h : j < L.length) : Dig.read bs 0 (L.take (j + 1)) = Dig.read bs 0 (L.take j) * bs + (hx L[j]).toNat := by
  rw [List.take_succ_eq_append_getElem h, read_snoc]

set_option maxRecDepth 100000 in
set_option maxHeartbeats 1600000 in
theorem tail10 (t : ByteArray) (k : Nat) (w : World) (ht : t.size ≤ 65536) (hr : Hid (∀ c ∈ lst t, 0 ≤ c ∧ 0 ≤ hx c ∧ hx c < (10 : Nat))) (hk : k ≤ t.size) (hz : Zs (lst t) k) (hm : t.size - k ≤ 7) (j : Nat) (hj1 : k ≤ j) (hj2 : j ≤ t.size) :
    (Dig.read 10 0 ((lst t).take j) : Nat) < (10000000 : Nat) := by
  have h := few 10 hz hr.out j hj1 7 (by omega) (by omega)
  have e : 10 ^ 7 = 10000000 := by decide
  omega

set_option maxRecDepth 100000 in
set_option maxHeartbeats 1600000 in
theorem number10 (t : ByteArray) (w : World) (ht : t.size ≤ 65536) (hr0 : ∀ c ∈ lst t, 0 ≤ c ∧ 0 ≤ hx c ∧ hx c < (10 : Nat)) : Calls Try.prog 36 #[.string t, .int .i64 10] w fun e w' => e = .returned (.int .i64 (cap (Dig.read 10 0 (lst t) : Nat))) ∧ w = w' := by
  have hr : Hid (∀ c ∈ lst t, 0 ≤ c ∧ 0 ≤ hx c ∧ hx c < (10 : Nat)) := hr0
  clear hr0
  obtain ⟨R, hR⟩ : ∃ R, R = cap (Dig.read 10 0 (lst t) : Nat) := ⟨_, rfl⟩
  rw [← hR]
  have HR : Hid (R = cap (Dig.read 10 0 (lst t) : Nat)) := hR
  clear hR
  go_enter Try.func36, Try.ntmps36
  go_wp2
  go_loop [5] (fun i => ∃ k : Nat, k ≤ t.size ∧ i = .int .i64 k ∧ Zs (lst t) k) (fun i => t.size - (intOf i).toNat)
  case atStart => exact ⟨0, Nat.zero_le _, rfl, Zs.zero _⟩
  case round =>
    obtain ⟨k, hk, rfl, hz⟩ := hrel
    by_cases hlt : k < t.size ∧ ((t[k]?.getD 0).toNat : Int) = 48
    · obtain ⟨hlt, h48⟩ := hlt
      have h48' : (t[k].toNat : Int) = 48 := by rw [getElem?_pos t k hlt] at h48; exact h48
      have hb : ((t[k].toNat : Int) == 48) = true := beq_iff_eq.2 h48'
      have hz' := hz.succ (by rw [lst_length]; exact hlt) (by rw [lst_get t k hlt]; exact h48')
      clear h48 h48'
      go_wp2
      go_round
      case rel => exact ⟨k + 1, by omega, by go_num, hz'⟩
      case measure => simp [intOf]; omega
    · have hst : Ends (lst t) k := by
        intro h hc
        have h2 : k < t.size := by rw [lst_length] at h; exact h
        rw [lst_get t k h2] at hc
        exact hlt ⟨h2, by rw [getElem?_pos t k h2]; exact hc⟩
      by_cases hm : 7 < t.size - k
      · have h2 : k < t.size := by omega
        have hne : (t[k].toNat : Int) ≠ 48 := fun hc => hlt ⟨h2, by rw [getElem?_pos t k h2]; exact hc⟩
        have hb : ((t[k].toNat : Int) == 48) = false := beq_eq_false_iff_ne.2 hne
        have hR : R = 1114112 := by rw [HR.out]; exact many 10 7 hz (by rw [lst_length]; exact h2) (hst (by rw [lst_length]; exact h2)) hr.out (by rw [lst_length]; exact hm) (by decide) (by omega)
        subst hR
        clear hne hlt HR
        go_wp2
        go_ret
        exact ⟨rfl, rfl⟩
      · have hdec : decide (k < t.size) = false ∨ ∃ h : k < t.size, ((t[k].toNat : Int) == 48) = false := by
          by_cases h2 : k < t.size
          · exact Or.inr ⟨h2, beq_eq_false_iff_ne.2 fun hc => hlt ⟨h2, by rw [getElem?_pos t k h2]; exact hc⟩⟩
          · exact Or.inl (decide_eq_false h2)
        clear hlt
        have hne : Hid (Ends (lst t) k) := hst
        clear hst
        rcases hdec with hd | ⟨h2, hb⟩
        · have hk2 : ¬ k < t.size := of_decide_eq_false hd
          clear hd
          go_wp2
          go_loop [5, 7] (fun i v => ∃ j : Nat, k ≤ j ∧ j ≤ t.size ∧ i = .int .i64 j ∧ v = .int .i64 (Dig.read 10 0 ((lst t).take j) : Nat)) (fun i _ => t.size - (intOf i).toNat)
          case atStart => exact ⟨k, Nat.le_refl _, hk, rfl, by rw [hz.read 10 k (Nat.le_refl _)]; simp [Dig.read]⟩
          case round =>
            obtain ⟨j, hj1, hj2, rfl, rfl⟩ := hrel
            have hV := tail10 t k w ht hr hk hz (by omega) j hj1 hj2
            by_cases hlt : j < t.size
            · have hjl : j < (lst t).length := by rw [lst_length]; exact hlt
              have hg := lst_get t j hlt
              have hd := hr.out (lst t)[j] (List.getElem_mem hjl)
              obtain ⟨q1, q2, q3⟩ := Agree.dec_of_hx (c := (t[j].toNat : Int)) (by rw [← hg]; exact hd.2.1) (by rw [← hg]; exact hd.2.2)
              have HN : Hid (((Dig.read 10 0 ((lst t).take (j + 1)) : Nat) : Int) = ((Dig.read 10 0 ((lst t).take j) : Nat) : Int) * 10 + ((t[j].toNat : Int) - 48)) := by have h1 := take_next 10 (lst t) j hjl; rw [hg] at h1; unfold Hid; omega
              clear hg hd hjl
              obtain ⟨V, hVe⟩ : ∃ V, V = Dig.read 10 0 ((lst t).take j) := ⟨_, rfl⟩
              rw [← hVe] at hV HN ⊢
              clear hVe
              go_wp2_with (go_at_call 35; refine (digit10_yes _ _ q1 q2).mono ?_; rintro e w' ⟨rfl, rfl⟩)
              go_round
              case rel => exact ⟨j + 1, by omega, by omega, by go_num, by rw [HN.out]⟩
              case measure => simp [intOf]; omega
            · have hj : j = t.size := by omega
              subst hj
              have HR2 : Hid (R = cap (Dig.read 10 0 ((lst t).take t.size) : Nat)) := by
                have h := HR.out
                rw [List.take_of_length_le (by rw [lst_length]; exact Nat.le_refl _)]
                exact h
              obtain ⟨V, hVe⟩ : ∃ V : Int, V = ((Dig.read 10 0 ((lst t).take t.size) : Nat) : Int) := ⟨_, rfl⟩
              have hV1 : V < 10000000 := by rw [hVe]; omega
              rw [← hVe] at HR2 ⊢
              clear hVe hV HR
              by_cases hc : 1114112 < V
              · have hR : R = 1114112 := by rw [HR2.out]; unfold cap; rw [if_neg (by omega)]
                subst hR
                clear HR2
                go_wp2
                go_ret
                exact ⟨rfl, rfl⟩
              · have hR : R = V := by rw [HR2.out]; unfold cap; rw [if_pos (by omega)]
                subst hR
                clear HR2
                go_wp2
                go_ret
                exact ⟨rfl, rfl⟩
        · go_wp2
          go_loop [5, 7] (fun i v => ∃ j : Nat, k ≤ j ∧ j ≤ t.size ∧ i = .int .i64 j ∧ v = .int .i64 (Dig.read 10 0 ((lst t).take j) : Nat)) (fun i _ => t.size - (intOf i).toNat)
          case atStart => exact ⟨k, Nat.le_refl _, hk, rfl, by rw [hz.read 10 k (Nat.le_refl _)]; simp [Dig.read]⟩
          case round =>
            obtain ⟨j, hj1, hj2, rfl, rfl⟩ := hrel
            have hV := tail10 t k w ht hr hk hz (by omega) j hj1 hj2
            by_cases hlt : j < t.size
            · have hjl : j < (lst t).length := by rw [lst_length]; exact hlt
              have hg := lst_get t j hlt
              have hd := hr.out (lst t)[j] (List.getElem_mem hjl)
              obtain ⟨q1, q2, q3⟩ := Agree.dec_of_hx (c := (t[j].toNat : Int)) (by rw [← hg]; exact hd.2.1) (by rw [← hg]; exact hd.2.2)
              have HN : Hid (((Dig.read 10 0 ((lst t).take (j + 1)) : Nat) : Int) = ((Dig.read 10 0 ((lst t).take j) : Nat) : Int) * 10 + ((t[j].toNat : Int) - 48)) := by have h1 := take_next 10 (lst t) j hjl; rw [hg] at h1; unfold Hid; omega
              clear hg hd hjl
              obtain ⟨V, hVe⟩ : ∃ V, V = Dig.read 10 0 ((lst t).take j) := ⟨_, rfl⟩
              rw [← hVe] at hV HN ⊢
              clear hVe
              go_wp2_with (go_at_call 35; refine (digit10_yes _ _ q1 q2).mono ?_; rintro e w' ⟨rfl, rfl⟩)
              go_round
              case rel => exact ⟨j + 1, by omega, by omega, by go_num, by rw [HN.out]⟩
              case measure => simp [intOf]; omega
            · have hj : j = t.size := by omega
              subst hj
              have HR2 : Hid (R = cap (Dig.read 10 0 ((lst t).take t.size) : Nat)) := by
                have h := HR.out
                rw [List.take_of_length_le (by rw [lst_length]; exact Nat.le_refl _)]
                exact h
              obtain ⟨V, hVe⟩ : ∃ V : Int, V = ((Dig.read 10 0 ((lst t).take t.size) : Nat) : Int) := ⟨_, rfl⟩
              have hV1 : V < 10000000 := by rw [hVe]; omega
              rw [← hVe] at HR2 ⊢
              clear hVe hV HR
              by_cases hc : 1114112 < V
              · have hR : R = 1114112 := by rw [HR2.out]; unfold cap; rw [if_neg (by omega)]
                subst hR
                clear HR2
                go_wp2
                go_ret
                exact ⟨rfl, rfl⟩
              · have hR : R = V := by rw [HR2.out]; unfold cap; rw [if_pos (by omega)]
                subst hR
                clear HR2
                go_wp2
                go_ret
                exact ⟨rfl, rfl⟩

set_option maxRecDepth 100000 in
set_option maxHeartbeats 1600000 in
theorem tail16 (t : ByteArray) (k : Nat) (w : World) (ht : t.size ≤ 65536) (hr : Hid (∀ c ∈ lst t, 0 ≤ c ∧ 0 ≤ hx c ∧ hx c < (16 : Nat))) (hk : k ≤ t.size) (hz : Zs (lst t) k) (hm : t.size - k ≤ 6) (j : Nat) (hj1 : k ≤ j) (hj2 : j ≤ t.size) :
    (Dig.read 16 0 ((lst t).take j) : Nat) < (16777216 : Nat) := by
  have h := few 16 hz hr.out j hj1 6 (by omega) (by omega)
  have e : 16 ^ 6 = 16777216 := by decide
  omega

set_option maxRecDepth 100000 in
set_option maxHeartbeats 1600000 in
theorem number16 (t : ByteArray) (w : World) (ht : t.size ≤ 65536) (hr0 : ∀ c ∈ lst t, 0 ≤ c ∧ 0 ≤ hx c ∧ hx c < (16 : Nat)) : Calls Try.prog 36 #[.string t, .int .i64 16] w fun e w' => e = .returned (.int .i64 (cap (Dig.read 16 0 (lst t) : Nat))) ∧ w = w' := by
  have hr : Hid (∀ c ∈ lst t, 0 ≤ c ∧ 0 ≤ hx c ∧ hx c < (16 : Nat)) := hr0
  clear hr0
  obtain ⟨R, hR⟩ : ∃ R, R = cap (Dig.read 16 0 (lst t) : Nat) := ⟨_, rfl⟩
  rw [← hR]
  have HR : Hid (R = cap (Dig.read 16 0 (lst t) : Nat)) := hR
  clear hR
  go_enter Try.func36, Try.ntmps36
  go_wp2
  go_loop [5] (fun i => ∃ k : Nat, k ≤ t.size ∧ i = .int .i64 k ∧ Zs (lst t) k) (fun i => t.size - (intOf i).toNat)
  case atStart => exact ⟨0, Nat.zero_le _, rfl, Zs.zero _⟩
  case round =>
    obtain ⟨k, hk, rfl, hz⟩ := hrel
    by_cases hlt : k < t.size ∧ ((t[k]?.getD 0).toNat : Int) = 48
    · obtain ⟨hlt, h48⟩ := hlt
      have h48' : (t[k].toNat : Int) = 48 := by rw [getElem?_pos t k hlt] at h48; exact h48
      have hb : ((t[k].toNat : Int) == 48) = true := beq_iff_eq.2 h48'
      have hz' := hz.succ (by rw [lst_length]; exact hlt) (by rw [lst_get t k hlt]; exact h48')
      clear h48 h48'
      go_wp2
      go_round
      case rel => exact ⟨k + 1, by omega, by go_num, hz'⟩
      case measure => simp [intOf]; omega
    · have hst : Ends (lst t) k := by
        intro h hc
        have h2 : k < t.size := by rw [lst_length] at h; exact h
        rw [lst_get t k h2] at hc
        exact hlt ⟨h2, by rw [getElem?_pos t k h2]; exact hc⟩
      by_cases hm : 6 < t.size - k
      · have h2 : k < t.size := by omega
        have hne : (t[k].toNat : Int) ≠ 48 := fun hc => hlt ⟨h2, by rw [getElem?_pos t k h2]; exact hc⟩
        have hb : ((t[k].toNat : Int) == 48) = false := beq_eq_false_iff_ne.2 hne
        have hR : R = 1114112 := by rw [HR.out]; exact many 16 6 hz (by rw [lst_length]; exact h2) (hst (by rw [lst_length]; exact h2)) hr.out (by rw [lst_length]; exact hm) (by decide) (by omega)
        subst hR
        clear hne hlt HR
        go_wp2
        go_ret
        exact ⟨rfl, rfl⟩
      · have hdec : decide (k < t.size) = false ∨ ∃ h : k < t.size, ((t[k].toNat : Int) == 48) = false := by
          by_cases h2 : k < t.size
          · exact Or.inr ⟨h2, beq_eq_false_iff_ne.2 fun hc => hlt ⟨h2, by rw [getElem?_pos t k h2]; exact hc⟩⟩
          · exact Or.inl (decide_eq_false h2)
        clear hlt
        have hne : Hid (Ends (lst t) k) := hst
        clear hst
        rcases hdec with hd | ⟨h2, hb⟩
        · have hk2 : ¬ k < t.size := of_decide_eq_false hd
          clear hd
          go_wp2
          go_loop [5, 7] (fun i v => ∃ j : Nat, k ≤ j ∧ j ≤ t.size ∧ i = .int .i64 j ∧ v = .int .i64 (Dig.read 16 0 ((lst t).take j) : Nat)) (fun i _ => t.size - (intOf i).toNat)
          case atStart => exact ⟨k, Nat.le_refl _, hk, rfl, by rw [hz.read 16 k (Nat.le_refl _)]; simp [Dig.read]⟩
          case round =>
            obtain ⟨j, hj1, hj2, rfl, rfl⟩ := hrel
            have hV := tail16 t k w ht hr hk hz (by omega) j hj1 hj2
            by_cases hlt : j < t.size
            · have hjl : j < (lst t).length := by rw [lst_length]; exact hlt
              have hg := lst_get t j hlt
              have hd := hr.out (lst t)[j] (List.getElem_mem hjl)
              have q0 : (0 : Int) ≤ (t[j].toNat : Int) := by omega
              have q00 : (t[j].toNat : Int) ≤ 255 := by have := t[j].toNat_lt; omega
              have q1 : 0 ≤ hx (t[j].toNat : Int) := by rw [← hg]; exact hd.2.1
              have q2 : hx (t[j].toNat : Int) ≤ 15 := by have := hd.2.2; rw [hg] at this; omega
              have HN : Hid (((Dig.read 16 0 ((lst t).take (j + 1)) : Nat) : Int) = ((Dig.read 16 0 ((lst t).take j) : Nat) : Int) * 16 + hx (t[j].toNat : Int)) := by have h1 := take_next 16 (lst t) j hjl; rw [hg] at h1; unfold Hid; omega
              clear hg hd hjl
              obtain ⟨V, hVe⟩ : ∃ V, V = Dig.read 16 0 ((lst t).take j) := ⟨_, rfl⟩
              rw [← hVe] at hV HN ⊢
              clear hVe
              go_wp2_with (go_at_call 35; refine (digit16_yes _ _ q0 q00 q1).mono ?_; rintro e w' ⟨rfl, rfl⟩)
              go_round
              case rel => exact ⟨j + 1, by omega, by omega, by go_num, by rw [HN.out]⟩
              case measure => simp [intOf]; omega
            · have hj : j = t.size := by omega
              subst hj
              have HR2 : Hid (R = cap (Dig.read 16 0 ((lst t).take t.size) : Nat)) := by
                have h := HR.out
                rw [List.take_of_length_le (by rw [lst_length]; exact Nat.le_refl _)]
                exact h
              obtain ⟨V, hVe⟩ : ∃ V : Int, V = ((Dig.read 16 0 ((lst t).take t.size) : Nat) : Int) := ⟨_, rfl⟩
              have hV1 : V < 16777216 := by rw [hVe]; omega
              rw [← hVe] at HR2 ⊢
              clear hVe hV HR
              by_cases hc : 1114112 < V
              · have hR : R = 1114112 := by rw [HR2.out]; unfold cap; rw [if_neg (by omega)]
                subst hR
                clear HR2
                go_wp2
                go_ret
                exact ⟨rfl, rfl⟩
              · have hR : R = V := by rw [HR2.out]; unfold cap; rw [if_pos (by omega)]
                subst hR
                clear HR2
                go_wp2
                go_ret
                exact ⟨rfl, rfl⟩
        · go_wp2
          go_loop [5, 7] (fun i v => ∃ j : Nat, k ≤ j ∧ j ≤ t.size ∧ i = .int .i64 j ∧ v = .int .i64 (Dig.read 16 0 ((lst t).take j) : Nat)) (fun i _ => t.size - (intOf i).toNat)
          case atStart => exact ⟨k, Nat.le_refl _, hk, rfl, by rw [hz.read 16 k (Nat.le_refl _)]; simp [Dig.read]⟩
          case round =>
            obtain ⟨j, hj1, hj2, rfl, rfl⟩ := hrel
            have hV := tail16 t k w ht hr hk hz (by omega) j hj1 hj2
            by_cases hlt : j < t.size
            · have hjl : j < (lst t).length := by rw [lst_length]; exact hlt
              have hg := lst_get t j hlt
              have hd := hr.out (lst t)[j] (List.getElem_mem hjl)
              have q0 : (0 : Int) ≤ (t[j].toNat : Int) := by omega
              have q00 : (t[j].toNat : Int) ≤ 255 := by have := t[j].toNat_lt; omega
              have q1 : 0 ≤ hx (t[j].toNat : Int) := by rw [← hg]; exact hd.2.1
              have q2 : hx (t[j].toNat : Int) ≤ 15 := by have := hd.2.2; rw [hg] at this; omega
              have HN : Hid (((Dig.read 16 0 ((lst t).take (j + 1)) : Nat) : Int) = ((Dig.read 16 0 ((lst t).take j) : Nat) : Int) * 16 + hx (t[j].toNat : Int)) := by have h1 := take_next 16 (lst t) j hjl; rw [hg] at h1; unfold Hid; omega
              clear hg hd hjl
              obtain ⟨V, hVe⟩ : ∃ V, V = Dig.read 16 0 ((lst t).take j) := ⟨_, rfl⟩
              rw [← hVe] at hV HN ⊢
              clear hVe
              go_wp2_with (go_at_call 35; refine (digit16_yes _ _ q0 q00 q1).mono ?_; rintro e w' ⟨rfl, rfl⟩)
              go_round
              case rel => exact ⟨j + 1, by omega, by omega, by go_num, by rw [HN.out]⟩
              case measure => simp [intOf]; omega
            · have hj : j = t.size := by omega
              subst hj
              have HR2 : Hid (R = cap (Dig.read 16 0 ((lst t).take t.size) : Nat)) := by
                have h := HR.out
                rw [List.take_of_length_le (by rw [lst_length]; exact Nat.le_refl _)]
                exact h
              obtain ⟨V, hVe⟩ : ∃ V : Int, V = ((Dig.read 16 0 ((lst t).take t.size) : Nat) : Int) := ⟨_, rfl⟩
              have hV1 : V < 16777216 := by rw [hVe]; omega
              rw [← hVe] at HR2 ⊢
              clear hVe hV HR
              by_cases hc : 1114112 < V
              · have hR : R = 1114112 := by rw [HR2.out]; unfold cap; rw [if_neg (by omega)]
                subst hR
                clear HR2
                go_wp2
                go_ret
                exact ⟨rfl, rfl⟩
              · have hR : R = V := by rw [HR2.out]; unfold cap; rw [if_pos (by omega)]
                subst hR
                clear HR2
                go_wp2
                go_ret
                exact ⟨rfl, rfl⟩

end Num
end Go.Proofs.Qxb6000730a

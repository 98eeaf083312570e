/-
  zzDigits: the digits of n, by its contract, at the bases 10 and 16.
-/
import Derived.Test.Qxb6000730aDig
import Derived.Test.Qxb6000730aBytes
namespace Go.Proofs.Qxb6000730a
open Go.ChangeShapes Go.WideShapes Go.ChangeAt Go.RowKit
namespace Dig
open Bytes
set_option linter.unusedVariables false

theorem bel_push {B : Nat} {w wr w1 : World} {o : Obj} {v : Value} {ds : List Int} (hbel : Below B w wr) (hB : B ≤ wr.heap.size) (hown : Own B v ds wr) (hg : (wr.alloc o).grownBy w1 v.ownBlock) : Below B w w1 :=
  (hbel.alloc hB o).grown hg (by simp; omega) (fun k hk => (hown.lt k hk).1)

theorem own_mono {B C : Nat} {v : Value} {ds : List Int} {w : World} (h : Own B v ds w) (hC : C ≤ B) : Own C v ds w := by
  refine ⟨h.1, ?_⟩
  rcases h.2 with hn | ⟨g, cap, cur, hv, hg, r⟩
  · exact .inl hn
  · exact .inr ⟨g, cap, cur, hv, by omega, r⟩

theorem rev_step (ds : List Int) (k : Nat) (hk : k < ds.length) : (ds.drop ((k : Int) + 1).toNat).reverse ++ [ds[k]] = (ds.drop ((k : Int) - 1 + 1).toNat).reverse := by
  have e1 : ((k : Int) + 1).toNat = k + 1 := by omega
  have e2 : ((k : Int) - 1 + 1).toNat = k := by omega
  rw [e1, e2, List.drop_eq_getElem_cons hk, List.reverse_cons]

theorem digits10_zero (up : Bool) (w : World) : Calls Try.prog 18 #[.int .u64 0, .int .u64 10, .bool up] w fun e w' => ∃ v, e = .returned v ∧ ∃ ds, Own w.heap.size v ds w' ∧ Whole 10 0 ds ∧ Below w.heap.size w w' := by
  have ho := Own.lit w.heap.size w [48] 1 rfl (Nat.le_refl _) (by omega)
  go_enter Try.func18, Try.ntmps18
  go_wp2
  go_ret
  exact ⟨_, rfl, [48], ho, whole_zero 10 (by omega), (Below.refl _ _).alloc (Nat.le_refl _) _⟩

set_option maxRecDepth 100000 in
set_option maxHeartbeats 1600000 in
theorem digits10_pos (n : Nat) (up : Bool) (w : World) (h0 : 0 < n) (hn : n < 18446744073709551616) : Calls Try.prog 18 #[.int .u64 n, .int .u64 10, .bool up] w fun e w' => ∃ v, e = .returned v ∧ ∃ ds, Own w.heap.size v ds w' ∧ Whole 10 n ds ∧ Below w.heap.size w w' := by
  have hz : ((n : Int) == 0) = false := beq_eq_false_iff_ne.2 (by omega)
  have HN : Hid (n < 18446744073709551616) := hn
  clear hn
  go_enter Try.func18, Try.ntmps18
  go_wp2
  go_loopw [0, 7] (fun nv rv wr => ∃ (m : Nat) (ds : List Int), nv = .int .u64 m ∧ m ≤ n ∧ Own w.heap.size rv ds wr ∧ Part 10 n ds m ∧ ds.length ≤ 64 ∧ Below w.heap.size w wr) (fun nv _ _ => (intOf nv).toNat)
  case atStart => exact ⟨n, [], rfl, Nat.le_refl _, Own.nil _ _, Part.start _ _, by simp, Below.refl _ _⟩
  case round =>
    obtain ⟨m, ds, rfl, hmn, hown, hpart, hlen, hbel⟩ := hrel
    have hB := hbel.size
    by_cases hm : 0 < m
    · have hl := hpart.len (by omega) hm HN.out
      have d0 : 0 ≤ (m : Int) % 10 := Int.emod_nonneg _ (by omega)
      have d1 : (m : Int) % 10 ≤ 9 := by have := Int.emod_lt_of_pos (m : Int) (show (0 : Int) < 10 by omega); omega
      have hq : (m : Int) / 10 ≤ 1844674407370955161 := by have := HN.out; omega
      have hnext := hpart.next (by omega) (by omega) up
      have es : sign up ((m : Int) % (10 : Nat)) = 48 + (m : Int) % 10 := by unfold sign; rw [if_pos (by omega)]; rfl
      rw [es] at hnext
      clear es
      go_wp2_with (at_builtin; refine push wr rfl (.tmp 32) (.tmp 34) rfl w.heap.size _ ds _ rfl rfl hown (by omega) hB ?_; intro v' w1 hown' hgrow hat)
      go_roundw
      case rel => exact ⟨m / 10, _, by go_num, by omega, hown', hnext, by simp; omega, bel_push hbel hB hown hgrow⟩
      case measure => simp [intOf]; omega
    · have hm0 : m = 0 := by omega
      subst hm0
      have hwh := hpart.whole h0 hlen
      have hne : ds ≠ [] := fun e => hwh.ne (by rw [e]; rfl)
      obtain ⟨g, cap, hv, hg1, hg2, hcell⟩ := hown.spot hne
      have HC : Hid (∀ j (hj : j < ds.length), wr.cell? ⟨g, j, none⟩ = some (.int .u8 ds[j])) := hcell
      clear hcell hm hmn hpart
      subst hv
      obtain ⟨wo, rfl⟩ : ∃ wo : World, wo = wr := ⟨_, rfl⟩
      obtain ⟨i0, hi, hz0, hz1, hz2⟩ := info_parts info5
      go_wp2_with (at_make; refine wpList_make_own wo rfl _ (.tmp 40) 35 rfl wo.heap.size 5 i0 (.int .u8 0) 1 Try.underlying35 hi hz0 hz1 _ _ _ ds.length rfl rfl rfl (by rw [hz2]; omega) (by unfold maxLen; omega) (Nat.le_refl _) ?_; intro w2 hown2 hgrow2)
      clear hi hz0 hz1 hz2
      go_loopw [10, 11] (fun ov iv wr => ∃ z : Int, iv = .int .i64 z ∧ -1 ≤ z ∧ z < ds.length ∧ Own wo.heap.size ov (ds.drop (z + 1).toNat).reverse wr ∧ Below wo.heap.size wo wr) (fun _ iv _ => (intOf iv + 1).toNat)
      case atStart =>
        refine ⟨(ds.length : Int) - 1, rfl, by omega, by omega, ?_, (Below.refl _ _).grown hgrow2 (Nat.le_refl _) (fun k hk => by cases hk)⟩
        have e1 : ((ds.length : Int) - 1 + 1).toNat = ds.length := by omega
        rw [e1, List.drop_length]
        exact hown2
      case round =>
        obtain ⟨z, rfl, hz0, hz1, ho, hb⟩ := hrel
        have hB2 := hb.size
        by_cases hzn : 0 ≤ z
        · obtain ⟨k, rfl⟩ := Int.eq_ofNat_of_zero_le hzn
          have hk : k < ds.length := by omega
          have hc : wr.cell? ⟨g, k, none⟩ = some (.int .u8 ds[k]) := (hb.cell hg2).trans (HC.out k hk)
          have hln : (ds.drop ((k : Int) + 1).toNat).reverse.length ≤ 1000000000 := by simp; omega
          go_wp2_with (at_builtin; refine push wr rfl (.tmp 49) (.tmp 54) rfl wo.heap.size _ _ _ rfl rfl ho hln hB2 ?_; intro v' w3 hown3 hgrow3 hat3)
          go_roundw
          case rel => exact ⟨(k : Int) - 1, rfl, by omega, by omega, by rw [← rev_step ds k hk]; exact hown3, bel_push hb hB2 ho hgrow3⟩
          case measure => first | (simp [intOf]; done) | (simp [intOf]; omega)
        · have e1 : z = -1 := by omega
          subst e1
          go_wp2
          go_ret
          exact ⟨_, rfl, ds.reverse, own_mono (by simpa using ho) hB, hwh, hbel.trans (hb.mono hB)⟩

theorem digits10 (n : Nat) (up : Bool) (w : World) (hn : n < 18446744073709551616) : Calls Try.prog 18 #[.int .u64 n, .int .u64 10, .bool up] w fun e w' => ∃ v, e = .returned v ∧ ∃ ds, Own w.heap.size v ds w' ∧ Whole 10 n ds ∧ Below w.heap.size w w' := by
  by_cases h : n = 0
  · subst h; exact digits10_zero up w
  · exact digits10_pos n up w (by omega) hn

theorem digits16_zero (up : Bool) (w : World) : Calls Try.prog 18 #[.int .u64 0, .int .u64 16, .bool up] w fun e w' => ∃ v, e = .returned v ∧ ∃ ds, Own w.heap.size v ds w' ∧ Whole 16 0 ds ∧ Below w.heap.size w w' := by
  have ho := Own.lit w.heap.size w [48] 1 rfl (Nat.le_refl _) (by omega)
  go_enter Try.func18, Try.ntmps18
  go_wp2
  go_ret
  exact ⟨_, rfl, [48], ho, whole_zero 16 (by omega), (Below.refl _ _).alloc (Nat.le_refl _) _⟩

set_option maxRecDepth 100000 in
set_option maxHeartbeats 1600000 in
theorem digits16_pos (n : Nat) (up : Bool) (w : World) (h0 : 0 < n) (hn : n < 18446744073709551616) : Calls Try.prog 18 #[.int .u64 n, .int .u64 16, .bool up] w fun e w' => ∃ v, e = .returned v ∧ ∃ ds, Own w.heap.size v ds w' ∧ Whole 16 n ds ∧ Below w.heap.size w w' := by
  have hz : ((n : Int) == 0) = false := beq_eq_false_iff_ne.2 (by omega)
  have HN : Hid (n < 18446744073709551616) := hn
  clear hn
  go_enter Try.func18, Try.ntmps18
  go_wp2
  go_loopw [0, 7] (fun nv rv wr => ∃ (m : Nat) (ds : List Int), nv = .int .u64 m ∧ m ≤ n ∧ Own w.heap.size rv ds wr ∧ Part 16 n ds m ∧ ds.length ≤ 64 ∧ Below w.heap.size w wr) (fun nv _ _ => (intOf nv).toNat)
  case atStart => exact ⟨n, [], rfl, Nat.le_refl _, Own.nil _ _, Part.start _ _, by simp, Below.refl _ _⟩
  case round =>
    obtain ⟨m, ds, rfl, hmn, hown, hpart, hlen, hbel⟩ := hrel
    have hB := hbel.size
    by_cases hm : 0 < m
    · have hl := hpart.len (by omega) hm HN.out
      have d0 : 0 ≤ (m : Int) % 16 := Int.emod_nonneg _ (by omega)
      have d1 : (m : Int) % 16 ≤ 15 := by have := Int.emod_lt_of_pos (m : Int) (show (0 : Int) < 16 by omega); omega
      have hq : (m : Int) / 16 ≤ 1152921504606846975 := by have := HN.out; omega
      have hnext := hpart.next (by omega) (by omega) up
      by_cases d9 : (m : Int) % 16 < 10
      · skip
        have es : sign up ((m : Int) % (16 : Nat)) = 48 + (m : Int) % 16 := by unfold sign; rw [if_pos (by omega)]; rfl
        rw [es] at hnext
        clear es
        go_wp2_with (at_builtin; refine push wr rfl (.tmp 32) (.tmp 34) rfl w.heap.size _ ds _ rfl rfl hown (by omega) hB ?_; intro v' w1 hown' hgrow hat)
        go_roundw
        case rel => exact ⟨m / 16, _, by go_num, by omega, hown', hnext, by simp; omega, bel_push hbel hB hown hgrow⟩
        case measure => simp [intOf]; omega
      · cases up
        · skip
          have es : sign false ((m : Int) % (16 : Nat)) = 97 + (m : Int) % 16 - 10 := by unfold sign; rw [if_neg (by omega), if_neg (by simp)]; rfl
          rw [es] at hnext
          clear es
          go_wp2_with (at_builtin; refine push wr rfl (.tmp 32) (.tmp 34) rfl w.heap.size _ ds _ rfl rfl hown (by omega) hB ?_; intro v' w1 hown' hgrow hat)
          go_roundw
          case rel => exact ⟨m / 16, _, by go_num, by omega, hown', hnext, by simp; omega, bel_push hbel hB hown hgrow⟩
          case measure => simp [intOf]; omega
        · skip
          have es : sign true ((m : Int) % (16 : Nat)) = 65 + (m : Int) % 16 - 10 := by unfold sign; rw [if_neg (by omega), if_pos rfl]; rfl
          rw [es] at hnext
          clear es
          go_wp2_with (at_builtin; refine push wr rfl (.tmp 32) (.tmp 34) rfl w.heap.size _ ds _ rfl rfl hown (by omega) hB ?_; intro v' w1 hown' hgrow hat)
          go_roundw
          case rel => exact ⟨m / 16, _, by go_num, by omega, hown', hnext, by simp; omega, bel_push hbel hB hown hgrow⟩
          case measure => simp [intOf]; omega
    · have hm0 : m = 0 := by omega
      subst hm0
      have hwh := hpart.whole h0 hlen
      have hne : ds ≠ [] := fun e => hwh.ne (by rw [e]; rfl)
      obtain ⟨g, cap, hv, hg1, hg2, hcell⟩ := hown.spot hne
      have HC : Hid (∀ j (hj : j < ds.length), wr.cell? ⟨g, j, none⟩ = some (.int .u8 ds[j])) := hcell
      clear hcell hm hmn hpart
      subst hv
      obtain ⟨wo, rfl⟩ : ∃ wo : World, wo = wr := ⟨_, rfl⟩
      obtain ⟨i0, hi, hz0, hz1, hz2⟩ := info_parts info5
      go_wp2_with (at_make; refine wpList_make_own wo rfl _ (.tmp 40) 35 rfl wo.heap.size 5 i0 (.int .u8 0) 1 Try.underlying35 hi hz0 hz1 _ _ _ ds.length rfl rfl rfl (by rw [hz2]; omega) (by unfold maxLen; omega) (Nat.le_refl _) ?_; intro w2 hown2 hgrow2)
      clear hi hz0 hz1 hz2
      go_loopw [10, 11] (fun ov iv wr => ∃ z : Int, iv = .int .i64 z ∧ -1 ≤ z ∧ z < ds.length ∧ Own wo.heap.size ov (ds.drop (z + 1).toNat).reverse wr ∧ Below wo.heap.size wo wr) (fun _ iv _ => (intOf iv + 1).toNat)
      case atStart =>
        refine ⟨(ds.length : Int) - 1, rfl, by omega, by omega, ?_, (Below.refl _ _).grown hgrow2 (Nat.le_refl _) (fun k hk => by cases hk)⟩
        have e1 : ((ds.length : Int) - 1 + 1).toNat = ds.length := by omega
        rw [e1, List.drop_length]
        exact hown2
      case round =>
        obtain ⟨z, rfl, hz0, hz1, ho, hb⟩ := hrel
        have hB2 := hb.size
        by_cases hzn : 0 ≤ z
        · obtain ⟨k, rfl⟩ := Int.eq_ofNat_of_zero_le hzn
          have hk : k < ds.length := by omega
          have hc : wr.cell? ⟨g, k, none⟩ = some (.int .u8 ds[k]) := (hb.cell hg2).trans (HC.out k hk)
          have hln : (ds.drop ((k : Int) + 1).toNat).reverse.length ≤ 1000000000 := by simp; omega
          go_wp2_with (at_builtin; refine push wr rfl (.tmp 49) (.tmp 54) rfl wo.heap.size _ _ _ rfl rfl ho hln hB2 ?_; intro v' w3 hown3 hgrow3 hat3)
          go_roundw
          case rel => exact ⟨(k : Int) - 1, rfl, by omega, by omega, by rw [← rev_step ds k hk]; exact hown3, bel_push hb hB2 ho hgrow3⟩
          case measure => first | (simp [intOf]; done) | (simp [intOf]; omega)
        · have e1 : z = -1 := by omega
          subst e1
          go_wp2
          go_ret
          exact ⟨_, rfl, ds.reverse, own_mono (by simpa using ho) hB, hwh, hbel.trans (hb.mono hB)⟩

theorem digits16 (n : Nat) (up : Bool) (w : World) (hn : n < 18446744073709551616) : Calls Try.prog 18 #[.int .u64 n, .int .u64 16, .bool up] w fun e w' => ∃ v, e = .returned v ∧ ∃ ds, Own w.heap.size v ds w' ∧ Whole 16 n ds ∧ Below w.heap.size w w' := by
  by_cases h : n = 0
  · subst h; exact digits16_zero up w
  · exact digits16_pos n up w (by omega) hn

end Dig
end Go.Proofs.Qxb6000730a

/-
  FnCharRefDecimalAndHexAgree: the walk.
-/
import Derived.Test.Qxb6000730aAgree
namespace Go.Proofs.Qxb6000730a
open Go.ChangeShapes Go.WideShapes Go.ChangeAt Go.RowKit
namespace Agree
open Bytes
set_option linter.unusedVariables false

/-- Behind a push onto v, another slice u of the call's own lies on, and the two lie apart. -/
theorem apart_push {B : Nat} {w w1 : World} {o : Obj} {v v' u : Value} {ds es : List Int} (hv : Own B v ds w) (hu : Own B u es w) (hne : v.ownBlock ≠ u.ownBlock) (hg : (w.alloc o).grownBy w1 v.ownBlock)
    (hat : v'.ownBlock = v.ownBlock ∨ v'.ownBlock = some (w.heap.size + 1)) : Own B u es w1 ∧ v'.ownBlock ≠ u.ownBlock := by
  refine ⟨(hu.alloc o).kept hg (fun e => hne e.symm), ?_⟩
  rcases hat with h | h
  · rw [h]; exact hne
  · rw [h]; intro e
    have := (hu.lt _ e.symm).2
    omega

theorem apart_all {B : Nat} {w w1 : World} {v v' u : Value} {ds es : List Int} (hv : Own B v ds w) (hu : Own B u es w) (hne : v.ownBlock ≠ u.ownBlock) (hg : w.grownBy w1 v.ownBlock)
    (hat : v'.ownBlock = v.ownBlock ∨ v'.ownBlock = some w.heap.size) : Own B u es w1 ∧ v'.ownBlock ≠ u.ownBlock := by
  refine ⟨hu.kept hg (fun e => hne e.symm), ?_⟩
  rcases hat with h | h
  · rw [h]; exact hne
  · rw [h]; intro e
    have := (hu.lt _ e.symm).2
    omega

/-- The signs of the two texts behind k zeros. -/
def decs (k : Nat) : List Int := 35 :: List.replicate k 48
def hexs (x : Int) (k : Nat) : List Int := 35 :: x :: List.replicate k 48
theorem decs_push (k : Nat) : decs k ++ [48] = decs (k + 1) := by simp [decs, List.replicate_succ']
theorem hexs_push (x : Int) (k : Nat) : hexs x k ++ [48] = hexs x (k + 1) := by simp [hexs, List.replicate_succ']

theorem dec_law (n k : Nat) (ds : List Int) (h : Dig.Whole 10 n ds) : Ref.feed Ref.r0 0 (decs k ++ ds ++ [59]) = (((decs k ++ ds ++ [59]).length : Int) - 1, true, Ref.cap n) ∧ (∀ c ∈ decs k ++ ds ++ [59], 0 ≤ c ∧ c ≤ 255) := by
  have hr : ∀ c ∈ List.replicate k 48 ++ ds, 0 ≤ Ref.hx c ∧ Ref.hx c < 10 := by
    intro c hc
    rcases List.mem_append.1 hc with hc | hc
    · have := List.eq_of_mem_replicate hc; subst this; decide
    · have := h.rng c hc; omega
  have e : decs k ++ ds ++ [59] = 35 :: ((List.replicate k 48 ++ ds) ++ [59]) := by simp [decs]
  refine ⟨?_, fun c hc => ?_⟩
  · rw [e, feed_dec _ hr (by simp [h.ne]), read_zeros, h.sum]
    simp
    omega
  · simp only [decs, List.mem_append, List.mem_cons, List.not_mem_nil, or_false, List.cons_append] at hc
    rcases hc with rfl | (hc | hc) | rfl
    · omega
    · have := List.eq_of_mem_replicate hc; omega
    · have := h.rng c hc; omega
    · omega

theorem hex_law (x : Int) (hx : x = 120 ∨ x = 88) (n k : Nat) (ds : List Int) (h : Dig.Whole 16 n ds) : Ref.feed Ref.r0 0 (hexs x k ++ ds ++ [59]) = (((hexs x k ++ ds ++ [59]).length : Int) - 1, true, Ref.cap n) ∧ (∀ c ∈ hexs x k ++ ds ++ [59], 0 ≤ c ∧ c ≤ 255) := by
  have hr : ∀ c ∈ List.replicate k 48 ++ ds, 0 ≤ Ref.hx c ∧ Ref.hx c < 16 := by
    intro c hc
    rcases List.mem_append.1 hc with hc | hc
    · have := List.eq_of_mem_replicate hc; subst this; decide
    · have := h.rng c hc; omega
  have e : hexs x k ++ ds ++ [59] = 35 :: x :: ((List.replicate k 48 ++ ds) ++ [59]) := by simp [hexs]
  refine ⟨?_, fun c hc => ?_⟩
  · rw [e, feed_hex x hx _ hr (by simp [h.ne]), read_zeros, h.sum]
    simp
    omega
  · simp only [hexs, List.mem_append, List.mem_cons, List.not_mem_nil, or_false, List.cons_append] at hc
    rcases hc with rfl | rfl | (hc | hc) | rfl
    · omega
    · omega
    · have := List.eq_of_mem_replicate hc; omega
    · have := h.rng c hc; omega
    · omega

theorem hex_lit (w : World) (x : Int) (o : Obj) : Own w.heap.size (.slice (some ⟨w.heap.size + 1, 0, none⟩) 2 2) [35, x] ((w.alloc o).alloc (.cells #[.int .u8 35, .int .u8 x] 5)) := by
  have h := Own.lit w.heap.size (w.alloc o) [35, x] 2 rfl (by simp) (by omega)
  have e : (w.alloc o).heap.size = w.heap.size + 1 := by simp
  rw [e] at h
  exact h

theorem want_cap (n : Nat) : (if (n : Int) < 1114112 then (n : Int) else 1114112) = Ref.cap n := by
  unfold Ref.cap
  by_cases h : (n : Int) < 1114112
  · rw [if_pos h, if_pos (by omega)]
  · rw [if_neg h]
    by_cases h2 : (n : Int) ≤ 1114112
    · rw [if_pos h2]; omega
    · rw [if_neg h2]

/-- A text that the reader takes to its last byte, a ';', for the number n. -/
structure Ready (n : Nat) (L : List Int) : Prop where
  ne : L ≠ []
  rng : ∀ c ∈ L, 0 ≤ c ∧ c ≤ 255
  len : L.length ≤ 1000
  law : Ref.feed Ref.r0 0 L = ((L.length : Int) - 1, true, Ref.cap n)

theorem pack {B n : Nat} {v : Value} {L0 : List Int} {w : World} (h : Own B v L0 w) (hr : Ready n L0) : ∃ (L : List Int) (g c : Nat), v = .slice (some ⟨g, 0, none⟩) L.length c ∧ Own B v L w ∧ Ready n L := by
  obtain ⟨g, c, hv, _, _, _⟩ := h.spot hr.ne
  exact ⟨L0, g, c, hv, h, hr⟩

theorem ready_dec {n k : Nat} {ds : List Int} (h : Dig.Whole 10 n ds) (hk : k ≤ 255) : Ready n (decs k ++ ds ++ [59]) :=
  ⟨by simp, (dec_law n k ds h).2, by have := h.len; simp [decs]; omega, (dec_law n k ds h).1⟩
theorem ready_hex {n k : Nat} {x : Int} {ds : List Int} (h : Dig.Whole 16 n ds) (hk : k ≤ 255) (hx : x = 120 ∨ x = 88) : Ready n (hexs x k ++ ds ++ [59]) :=
  ⟨by simp, (hex_law x hx n k ds h).2, by have := h.len; simp [hexs]; omega, (hex_law x hx n k ds h).1⟩

theorem feeds {B n : Nat} {v : Value} {L : List Int} {w : World} {N : Int} (h : Own B v L w) (hr : Ready n L) (hN : Ref.cap n = N) :
    Calls Try.prog 19 #[v] w fun e w' => e = .returned (.tuple #[.int .i64 ((L.length : Int) - 1), .bool true, .int .i64 N]) ∧ Below w.heap.size w w' := by
  have hf := Ref.feed_any B v L w h hr.ne hr.rng (by have := hr.len; omega)
  rw [hr.law, hN] at hf
  exact hf

theorem cap_lo {a : Int} (h0 : 0 ≤ a) (h : a < 1114112) : Ref.cap a.toNat = a := by unfold Ref.cap; rw [if_pos (by omega)]; omega
theorem cap_hi {a : Int} (h0 : 0 ≤ a) (h : ¬ a < 1114112) : Ref.cap a.toNat = 1114112 := by unfold Ref.cap; split <;> omega
theorem digits10' (a : Int) (up : Bool) (w : World) (h0 : 0 ≤ a) (hn : a < 18446744073709551616) : Calls Try.prog 18 #[.int .u64 a, .int .u64 10, .bool up] w fun e w' => ∃ v, e = .returned v ∧ ∃ ds, Own w.heap.size v ds w' ∧ Dig.Whole 10 a.toNat ds ∧ Below w.heap.size w w' := by
  have h := Dig.digits10 a.toNat up w (by omega)
  rw [Int.toNat_of_nonneg h0] at h
  exact h
theorem digits16' (a : Int) (up : Bool) (w : World) (h0 : 0 ≤ a) (hn : a < 18446744073709551616) : Calls Try.prog 18 #[.int .u64 a, .int .u64 16, .bool up] w fun e w' => ∃ v, e = .returned v ∧ ∃ ds, Own w.heap.size v ds w' ∧ Dig.Whole 16 a.toNat ds ∧ Below w.heap.size w w' := by
  have h := Dig.digits16 a.toNat up w (by omega)
  rw [Int.toNat_of_nonneg h0] at h
  exact h

set_option maxRecDepth 100000 in
set_option maxHeartbeats 3200000 in
theorem walk120 (a : Int) (z : Nat) (up : Bool) (w : World) (ha : 0 ≤ a) (hn : a < 18446744073709551616) (hz : z ≤ 255) :
    Calls Try.prog 5 #[.int .u64 a, .int .u8 z, .bool false, .bool up] w fun e w' => e = .returned (.bool true) ∧ Below w.heap.size w w' := by
  have HN : Hid (a < 18446744073709551616) := hn
  clear hn
  have L0 : Own w.heap.size (.slice (some ⟨w.heap.size, 0, none⟩) 1 1) (decs 0) (w.alloc (.cells #[.int .u8 35] 5)) := Own.lit w.heap.size w [35] 1 rfl (Nat.le_refl _) (by omega)
  have L1 : Own w.heap.size (.slice (some ⟨w.heap.size + 1, 0, none⟩) 2 2) (hexs 120 0) ((w.alloc (.cells #[.int .u8 35] 5)).alloc (.cells #[.int .u8 35, .int .u8 120] 5)) := hex_lit w 120 (.cells #[.int .u8 35] 5)
  go_enter Try.func5, Try.ntmps5
  go_wp2
  go_loopw [10, 11, 12] (fun dv hv iv wr => ∃ k : Nat, iv = .int .i64 k ∧ k ≤ z ∧ Own w.heap.size dv (decs k) wr ∧ Own w.heap.size hv (hexs 120 k) wr ∧ dv.ownBlock ≠ hv.ownBlock ∧ Below w.heap.size w wr) (fun _ _ iv _ => z - (intOf iv).toNat)
  case atStart => exact ⟨0, rfl, Nat.zero_le _, L0.alloc _, L1, by simp [Value.ownBlock], ((Below.refl _ _).alloc (Nat.le_refl _) _).alloc (by simp) _⟩
  case round =>
    clear L0 L1
    obtain ⟨k, rfl, hk, hd, hh, hne, hbel⟩ := hrel
    have hB := hbel.size
    have hld : (decs k).length ≤ 1000 := by simp [decs]; omega
    have hlh : (hexs 120 k).length ≤ 1000 := by simp [hexs]; omega
    by_cases hlt : k < z
    · have tok1 : True := trivial
      have tok2 : True := trivial
      go_wp2_with (first
        | (at_builtin; have _t := tok1; refine push wr rfl (.tmp 30) (.tmp 31) rfl w.heap.size _ (decs k) 48 rfl rfl hd (by omega) hB ?_; intro d1 w1 hd1 hg1 ha1; clear tok1; have hap1 := apart_push hd hh hne hg1 ha1; have hbel1 := Dig.bel_push hbel hB hd hg1; have hB1 := hbel1.size)
        | (at_builtin; have _t := tok2; refine push w1 rfl (.tmp 33) (.tmp 34) rfl w.heap.size _ (hexs 120 k) 48 rfl rfl hap1.1 (by omega) hB1 ?_; intro h2 w2 hh2 hg2 ha2; clear tok2; have hap2 := apart_push hap1.1 hd1 (fun e => hap1.2 e.symm) hg2 ha2; have hbel2 := Dig.bel_push hbel1 hB1 hap1.1 hg2))
      rw [decs_push] at hap2
      rw [hexs_push] at hh2
      go_roundw
      case rel => exact ⟨k + 1, by go_num, by omega, hap2.1, hh2, fun e => hap2.2 e.symm, hbel2⟩
      case measure => simp [intOf]; omega
    · have hk2 : k ≤ 255 := by omega

      by_cases hlow : a < 1114112
      · have HCAP : Hid (Ref.cap a.toNat = a) := cap_lo ha hlow
        have tok1 : True := trivial
        have tok2 : True := trivial
        have tok3 : True := trivial
        have tok4 : True := trivial
        have tok5 : True := trivial
        have tok6 : True := trivial
        have tok7 : True := trivial
        have tok8 : True := trivial
        go_wp2_with (first
          | (go_at_call 18; have _t := tok1; refine (digits10' a false wr ha HN.out).mono ?_; rintro e w1 ⟨u1, rfl, ds, ho1, hw1, hb1⟩; clear tok1; have hd1 := hd.below hb1; have hh1 := hh.below hb1; have hbel1 := hbel.trans (hb1.mono hB); have hB1 := hbel1.size; have hl1 := hw1.len)
          | (at_builtin; have _t := tok2; refine pushAll w1 rfl (.tmp 36) (.tmp 38) rfl w.heap.size wr.heap.size _ _ (decs k) ds rfl rfl hd1 ho1 hw1.ne (by omega) (by omega) hB1 ?_; intro d2 w2 hd2 hg2 ha2; clear tok2; have hap2 := apart_all hd1 hh1 hne hg2 ha2; have hbel2 := hbel1.grown hg2 hB1 (fun k hk => (hd1.lt k hk).1); have hB2 := hbel2.size; have hl2 : (decs k ++ ds).length ≤ 2000 := by rw [List.length_append]; omega)
          | (at_builtin; have _t := tok3; refine push w2 rfl (.tmp 40) (.tmp 41) rfl w.heap.size _ (decs k ++ ds) 59 rfl rfl hd2 (by omega) hB2 ?_; intro d3 w3 hd3 hg3 ha3; clear tok3; have hap3 := apart_push hd2 hap2.1 hap2.2 hg3 ha3; have hbel3 := Dig.bel_push hbel2 hB2 hd2 hg3; have hB3 := hbel3.size; obtain ⟨Ld, gd, cd, hvd, hD3, hRd⟩ := pack hd3 (ready_dec hw1 hk2); clear hd3; subst hvd)
          | (go_at_call 18; have _t := tok4; refine (digits16' a up w3 ha HN.out).mono ?_; rintro e w4 ⟨u4, rfl, es, ho4, hw4, hb4⟩; clear tok4; have hd4 := hD3.below hb4; have hh4 := hap3.1.below hb4; have hbel4 := hbel3.trans (hb4.mono hB3); have hB4 := hbel4.size; have hl4 := hw4.len)
          | (at_builtin; have _t := tok5; refine pushAll w4 rfl (.tmp 43) (.tmp 46) rfl w.heap.size w3.heap.size _ _ (hexs 120 k) es rfl rfl hh4 ho4 hw4.ne (by omega) (by omega) hB4 ?_; intro h5 w5 hh5 hg5 ha5; clear tok5; have hap5 := apart_all hh4 hd4 (fun e => hap3.2 e.symm) hg5 ha5; have hbel5 := hbel4.grown hg5 hB4 (fun k hk => (hh4.lt k hk).1); have hB5 := hbel5.size; have hl5 : (hexs 120 k ++ es).length ≤ 2000 := by rw [List.length_append]; omega)
          | (at_builtin; have _t := tok6; refine push w5 rfl (.tmp 48) (.tmp 49) rfl w.heap.size _ (hexs 120 k ++ es) 59 rfl rfl hh5 (by omega) hB5 ?_; intro h6 w6 hh6 hg6 ha6; clear tok6; have hap6 := apart_push hh5 hap5.1 hap5.2 hg6 ha6; have hbel6 := Dig.bel_push hbel5 hB5 hh5 hg6; have hB6 := hbel6.size; obtain ⟨Lh, gh, ch, hvh, hH6, hRh⟩ := pack hh6 (ready_hex hw4 hk2 (by omega)); clear hh6; subst hvh)
          | (go_at_call 19; have _t := tok7; refine (feeds hap6.1 hRd HCAP.out).mono ?_; rintro e w7 ⟨rfl, hb7⟩; clear tok7; have hH7 := hH6.below hb7; have hbel7 := hbel6.trans (hb7.mono hB6); have hB7 := hbel7.size; have hl7 := hRd.len; have hl8 := hRh.len)
          | (go_at_call 19; have _t := tok8; refine (feeds hH7 hRh HCAP.out).mono ?_; rintro e w8 ⟨rfl, hb8⟩; clear tok8; have hbel8 := hbel7.trans (hb8.mono hB7)))
        go_ret
        exact ⟨rfl, hbel8⟩
      · have HCAP : Hid (Ref.cap a.toNat = 1114112) := cap_hi ha hlow
        have tok1 : True := trivial
        have tok2 : True := trivial
        have tok3 : True := trivial
        have tok4 : True := trivial
        have tok5 : True := trivial
        have tok6 : True := trivial
        have tok7 : True := trivial
        have tok8 : True := trivial
        go_wp2_with (first
          | (go_at_call 18; have _t := tok1; refine (digits10' a false wr ha HN.out).mono ?_; rintro e w1 ⟨u1, rfl, ds, ho1, hw1, hb1⟩; clear tok1; have hd1 := hd.below hb1; have hh1 := hh.below hb1; have hbel1 := hbel.trans (hb1.mono hB); have hB1 := hbel1.size; have hl1 := hw1.len)
          | (at_builtin; have _t := tok2; refine pushAll w1 rfl (.tmp 36) (.tmp 38) rfl w.heap.size wr.heap.size _ _ (decs k) ds rfl rfl hd1 ho1 hw1.ne (by omega) (by omega) hB1 ?_; intro d2 w2 hd2 hg2 ha2; clear tok2; have hap2 := apart_all hd1 hh1 hne hg2 ha2; have hbel2 := hbel1.grown hg2 hB1 (fun k hk => (hd1.lt k hk).1); have hB2 := hbel2.size; have hl2 : (decs k ++ ds).length ≤ 2000 := by rw [List.length_append]; omega)
          | (at_builtin; have _t := tok3; refine push w2 rfl (.tmp 40) (.tmp 41) rfl w.heap.size _ (decs k ++ ds) 59 rfl rfl hd2 (by omega) hB2 ?_; intro d3 w3 hd3 hg3 ha3; clear tok3; have hap3 := apart_push hd2 hap2.1 hap2.2 hg3 ha3; have hbel3 := Dig.bel_push hbel2 hB2 hd2 hg3; have hB3 := hbel3.size; obtain ⟨Ld, gd, cd, hvd, hD3, hRd⟩ := pack hd3 (ready_dec hw1 hk2); clear hd3; subst hvd)
          | (go_at_call 18; have _t := tok4; refine (digits16' a up w3 ha HN.out).mono ?_; rintro e w4 ⟨u4, rfl, es, ho4, hw4, hb4⟩; clear tok4; have hd4 := hD3.below hb4; have hh4 := hap3.1.below hb4; have hbel4 := hbel3.trans (hb4.mono hB3); have hB4 := hbel4.size; have hl4 := hw4.len)
          | (at_builtin; have _t := tok5; refine pushAll w4 rfl (.tmp 43) (.tmp 46) rfl w.heap.size w3.heap.size _ _ (hexs 120 k) es rfl rfl hh4 ho4 hw4.ne (by omega) (by omega) hB4 ?_; intro h5 w5 hh5 hg5 ha5; clear tok5; have hap5 := apart_all hh4 hd4 (fun e => hap3.2 e.symm) hg5 ha5; have hbel5 := hbel4.grown hg5 hB4 (fun k hk => (hh4.lt k hk).1); have hB5 := hbel5.size; have hl5 : (hexs 120 k ++ es).length ≤ 2000 := by rw [List.length_append]; omega)
          | (at_builtin; have _t := tok6; refine push w5 rfl (.tmp 48) (.tmp 49) rfl w.heap.size _ (hexs 120 k ++ es) 59 rfl rfl hh5 (by omega) hB5 ?_; intro h6 w6 hh6 hg6 ha6; clear tok6; have hap6 := apart_push hh5 hap5.1 hap5.2 hg6 ha6; have hbel6 := Dig.bel_push hbel5 hB5 hh5 hg6; have hB6 := hbel6.size; obtain ⟨Lh, gh, ch, hvh, hH6, hRh⟩ := pack hh6 (ready_hex hw4 hk2 (by omega)); clear hh6; subst hvh)
          | (go_at_call 19; have _t := tok7; refine (feeds hap6.1 hRd HCAP.out).mono ?_; rintro e w7 ⟨rfl, hb7⟩; clear tok7; have hH7 := hH6.below hb7; have hbel7 := hbel6.trans (hb7.mono hB6); have hB7 := hbel7.size; have hl7 := hRd.len; have hl8 := hRh.len)
          | (go_at_call 19; have _t := tok8; refine (feeds hH7 hRh HCAP.out).mono ?_; rintro e w8 ⟨rfl, hb8⟩; clear tok8; have hbel8 := hbel7.trans (hb8.mono hB7)))
        go_ret
        exact ⟨rfl, hbel8⟩
set_option maxRecDepth 100000 in
set_option maxHeartbeats 3200000 in
theorem walk88 (a : Int) (z : Nat) (up : Bool) (w : World) (ha : 0 ≤ a) (hn : a < 18446744073709551616) (hz : z ≤ 255) :
    Calls Try.prog 5 #[.int .u64 a, .int .u8 z, .bool true, .bool up] w fun e w' => e = .returned (.bool true) ∧ Below w.heap.size w w' := by
  have HN : Hid (a < 18446744073709551616) := hn
  clear hn
  have L0 : Own w.heap.size (.slice (some ⟨w.heap.size, 0, none⟩) 1 1) (decs 0) (w.alloc (.cells #[.int .u8 35] 5)) := Own.lit w.heap.size w [35] 1 rfl (Nat.le_refl _) (by omega)
  have L1 : Own w.heap.size (.slice (some ⟨w.heap.size + 1, 0, none⟩) 2 2) (hexs 88 0) ((w.alloc (.cells #[.int .u8 35] 5)).alloc (.cells #[.int .u8 35, .int .u8 88] 5)) := hex_lit w 88 (.cells #[.int .u8 35] 5)
  go_enter Try.func5, Try.ntmps5
  go_wp2
  go_loopw [10, 11, 12] (fun dv hv iv wr => ∃ k : Nat, iv = .int .i64 k ∧ k ≤ z ∧ Own w.heap.size dv (decs k) wr ∧ Own w.heap.size hv (hexs 88 k) wr ∧ dv.ownBlock ≠ hv.ownBlock ∧ Below w.heap.size w wr) (fun _ _ iv _ => z - (intOf iv).toNat)
  case atStart => exact ⟨0, rfl, Nat.zero_le _, L0.alloc _, L1, by simp [Value.ownBlock], ((Below.refl _ _).alloc (Nat.le_refl _) _).alloc (by simp) _⟩
  case round =>
    clear L0 L1
    obtain ⟨k, rfl, hk, hd, hh, hne, hbel⟩ := hrel
    have hB := hbel.size
    have hld : (decs k).length ≤ 1000 := by simp [decs]; omega
    have hlh : (hexs 88 k).length ≤ 1000 := by simp [hexs]; omega
    by_cases hlt : k < z
    · have tok1 : True := trivial
      have tok2 : True := trivial
      go_wp2_with (first
        | (at_builtin; have _t := tok1; refine push wr rfl (.tmp 30) (.tmp 31) rfl w.heap.size _ (decs k) 48 rfl rfl hd (by omega) hB ?_; intro d1 w1 hd1 hg1 ha1; clear tok1; have hap1 := apart_push hd hh hne hg1 ha1; have hbel1 := Dig.bel_push hbel hB hd hg1; have hB1 := hbel1.size)
        | (at_builtin; have _t := tok2; refine push w1 rfl (.tmp 33) (.tmp 34) rfl w.heap.size _ (hexs 88 k) 48 rfl rfl hap1.1 (by omega) hB1 ?_; intro h2 w2 hh2 hg2 ha2; clear tok2; have hap2 := apart_push hap1.1 hd1 (fun e => hap1.2 e.symm) hg2 ha2; have hbel2 := Dig.bel_push hbel1 hB1 hap1.1 hg2))
      rw [decs_push] at hap2
      rw [hexs_push] at hh2
      go_roundw
      case rel => exact ⟨k + 1, by go_num, by omega, hap2.1, hh2, fun e => hap2.2 e.symm, hbel2⟩
      case measure => simp [intOf]; omega
    · have hk2 : k ≤ 255 := by omega

      by_cases hlow : a < 1114112
      · have HCAP : Hid (Ref.cap a.toNat = a) := cap_lo ha hlow
        have tok1 : True := trivial
        have tok2 : True := trivial
        have tok3 : True := trivial
        have tok4 : True := trivial
        have tok5 : True := trivial
        have tok6 : True := trivial
        have tok7 : True := trivial
        have tok8 : True := trivial
        go_wp2_with (first
          | (go_at_call 18; have _t := tok1; refine (digits10' a false wr ha HN.out).mono ?_; rintro e w1 ⟨u1, rfl, ds, ho1, hw1, hb1⟩; clear tok1; have hd1 := hd.below hb1; have hh1 := hh.below hb1; have hbel1 := hbel.trans (hb1.mono hB); have hB1 := hbel1.size; have hl1 := hw1.len)
          | (at_builtin; have _t := tok2; refine pushAll w1 rfl (.tmp 36) (.tmp 38) rfl w.heap.size wr.heap.size _ _ (decs k) ds rfl rfl hd1 ho1 hw1.ne (by omega) (by omega) hB1 ?_; intro d2 w2 hd2 hg2 ha2; clear tok2; have hap2 := apart_all hd1 hh1 hne hg2 ha2; have hbel2 := hbel1.grown hg2 hB1 (fun k hk => (hd1.lt k hk).1); have hB2 := hbel2.size; have hl2 : (decs k ++ ds).length ≤ 2000 := by rw [List.length_append]; omega)
          | (at_builtin; have _t := tok3; refine push w2 rfl (.tmp 40) (.tmp 41) rfl w.heap.size _ (decs k ++ ds) 59 rfl rfl hd2 (by omega) hB2 ?_; intro d3 w3 hd3 hg3 ha3; clear tok3; have hap3 := apart_push hd2 hap2.1 hap2.2 hg3 ha3; have hbel3 := Dig.bel_push hbel2 hB2 hd2 hg3; have hB3 := hbel3.size; obtain ⟨Ld, gd, cd, hvd, hD3, hRd⟩ := pack hd3 (ready_dec hw1 hk2); clear hd3; subst hvd)
          | (go_at_call 18; have _t := tok4; refine (digits16' a up w3 ha HN.out).mono ?_; rintro e w4 ⟨u4, rfl, es, ho4, hw4, hb4⟩; clear tok4; have hd4 := hD3.below hb4; have hh4 := hap3.1.below hb4; have hbel4 := hbel3.trans (hb4.mono hB3); have hB4 := hbel4.size; have hl4 := hw4.len)
          | (at_builtin; have _t := tok5; refine pushAll w4 rfl (.tmp 43) (.tmp 46) rfl w.heap.size w3.heap.size _ _ (hexs 88 k) es rfl rfl hh4 ho4 hw4.ne (by omega) (by omega) hB4 ?_; intro h5 w5 hh5 hg5 ha5; clear tok5; have hap5 := apart_all hh4 hd4 (fun e => hap3.2 e.symm) hg5 ha5; have hbel5 := hbel4.grown hg5 hB4 (fun k hk => (hh4.lt k hk).1); have hB5 := hbel5.size; have hl5 : (hexs 88 k ++ es).length ≤ 2000 := by rw [List.length_append]; omega)
          | (at_builtin; have _t := tok6; refine push w5 rfl (.tmp 48) (.tmp 49) rfl w.heap.size _ (hexs 88 k ++ es) 59 rfl rfl hh5 (by omega) hB5 ?_; intro h6 w6 hh6 hg6 ha6; clear tok6; have hap6 := apart_push hh5 hap5.1 hap5.2 hg6 ha6; have hbel6 := Dig.bel_push hbel5 hB5 hh5 hg6; have hB6 := hbel6.size; obtain ⟨Lh, gh, ch, hvh, hH6, hRh⟩ := pack hh6 (ready_hex hw4 hk2 (by omega)); clear hh6; subst hvh)
          | (go_at_call 19; have _t := tok7; refine (feeds hap6.1 hRd HCAP.out).mono ?_; rintro e w7 ⟨rfl, hb7⟩; clear tok7; have hH7 := hH6.below hb7; have hbel7 := hbel6.trans (hb7.mono hB6); have hB7 := hbel7.size; have hl7 := hRd.len; have hl8 := hRh.len)
          | (go_at_call 19; have _t := tok8; refine (feeds hH7 hRh HCAP.out).mono ?_; rintro e w8 ⟨rfl, hb8⟩; clear tok8; have hbel8 := hbel7.trans (hb8.mono hB7)))
        go_ret
        exact ⟨rfl, hbel8⟩
      · have HCAP : Hid (Ref.cap a.toNat = 1114112) := cap_hi ha hlow
        have tok1 : True := trivial
        have tok2 : True := trivial
        have tok3 : True := trivial
        have tok4 : True := trivial
        have tok5 : True := trivial
        have tok6 : True := trivial
        have tok7 : True := trivial
        have tok8 : True := trivial
        go_wp2_with (first
          | (go_at_call 18; have _t := tok1; refine (digits10' a false wr ha HN.out).mono ?_; rintro e w1 ⟨u1, rfl, ds, ho1, hw1, hb1⟩; clear tok1; have hd1 := hd.below hb1; have hh1 := hh.below hb1; have hbel1 := hbel.trans (hb1.mono hB); have hB1 := hbel1.size; have hl1 := hw1.len)
          | (at_builtin; have _t := tok2; refine pushAll w1 rfl (.tmp 36) (.tmp 38) rfl w.heap.size wr.heap.size _ _ (decs k) ds rfl rfl hd1 ho1 hw1.ne (by omega) (by omega) hB1 ?_; intro d2 w2 hd2 hg2 ha2; clear tok2; have hap2 := apart_all hd1 hh1 hne hg2 ha2; have hbel2 := hbel1.grown hg2 hB1 (fun k hk => (hd1.lt k hk).1); have hB2 := hbel2.size; have hl2 : (decs k ++ ds).length ≤ 2000 := by rw [List.length_append]; omega)
          | (at_builtin; have _t := tok3; refine push w2 rfl (.tmp 40) (.tmp 41) rfl w.heap.size _ (decs k ++ ds) 59 rfl rfl hd2 (by omega) hB2 ?_; intro d3 w3 hd3 hg3 ha3; clear tok3; have hap3 := apart_push hd2 hap2.1 hap2.2 hg3 ha3; have hbel3 := Dig.bel_push hbel2 hB2 hd2 hg3; have hB3 := hbel3.size; obtain ⟨Ld, gd, cd, hvd, hD3, hRd⟩ := pack hd3 (ready_dec hw1 hk2); clear hd3; subst hvd)
          | (go_at_call 18; have _t := tok4; refine (digits16' a up w3 ha HN.out).mono ?_; rintro e w4 ⟨u4, rfl, es, ho4, hw4, hb4⟩; clear tok4; have hd4 := hD3.below hb4; have hh4 := hap3.1.below hb4; have hbel4 := hbel3.trans (hb4.mono hB3); have hB4 := hbel4.size; have hl4 := hw4.len)
          | (at_builtin; have _t := tok5; refine pushAll w4 rfl (.tmp 43) (.tmp 46) rfl w.heap.size w3.heap.size _ _ (hexs 88 k) es rfl rfl hh4 ho4 hw4.ne (by omega) (by omega) hB4 ?_; intro h5 w5 hh5 hg5 ha5; clear tok5; have hap5 := apart_all hh4 hd4 (fun e => hap3.2 e.symm) hg5 ha5; have hbel5 := hbel4.grown hg5 hB4 (fun k hk => (hh4.lt k hk).1); have hB5 := hbel5.size; have hl5 : (hexs 88 k ++ es).length ≤ 2000 := by rw [List.length_append]; omega)
          | (at_builtin; have _t := tok6; refine push w5 rfl (.tmp 48) (.tmp 49) rfl w.heap.size _ (hexs 88 k ++ es) 59 rfl rfl hh5 (by omega) hB5 ?_; intro h6 w6 hh6 hg6 ha6; clear tok6; have hap6 := apart_push hh5 hap5.1 hap5.2 hg6 ha6; have hbel6 := Dig.bel_push hbel5 hB5 hh5 hg6; have hB6 := hbel6.size; obtain ⟨Lh, gh, ch, hvh, hH6, hRh⟩ := pack hh6 (ready_hex hw4 hk2 (by omega)); clear hh6; subst hvh)
          | (go_at_call 19; have _t := tok7; refine (feeds hap6.1 hRd HCAP.out).mono ?_; rintro e w7 ⟨rfl, hb7⟩; clear tok7; have hH7 := hH6.below hb7; have hbel7 := hbel6.trans (hb7.mono hB6); have hB7 := hbel7.size; have hl7 := hRd.len; have hl8 := hRh.len)
          | (go_at_call 19; have _t := tok8; refine (feeds hH7 hRh HCAP.out).mono ?_; rintro e w8 ⟨rfl, hb8⟩; clear tok8; have hbel8 := hbel7.trans (hb8.mono hB7)))
        go_ret
        exact ⟨rfl, hbel8⟩

end Agree
end Go.Proofs.Qxb6000730a

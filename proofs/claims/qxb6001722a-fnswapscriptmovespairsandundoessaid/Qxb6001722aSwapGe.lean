/-
  The swap script's law, walked whole: the shorter of the two lists being the first.
-/
import Derived.Test.Qxb6001722aSwapY
import Derived.Deep.QuietTactic
import Derived.BigQuiet
namespace Go.Proofs.Qxb6001722a
open Go.ChangeShapes Go.WideShapes Go.ChangeAt Go.RowKit
namespace Swap
set_option linter.unusedVariables false

set_option maxRecDepth 100000 in
set_option maxHeartbeats 6400000 in
theorem goGe (a0 a1 a2 a3 : Option Addr) (len0 len1 len2 len3 cap0 cap1 cap2 cap3 : Nat) (S T : Nat → ByteArray) (Z Y : Nat → Int) (w : World)
    (h0 : Arg w a0 len0 (str S)) (h1 : Arg w a1 len1 (str T)) (h2 : Arg w a2 len2 (num Z)) (h3 : Arg w a3 len3 (num Y))
    (l0 : len0 ≤ 1024) (l1 : len1 ≤ 1024) (l2 : len2 ≤ 4096) (l3 : len3 ≤ 4096) (he : len2 = len3) (hmin : ¬ len1 < len0) :
    Calls Try.prog 6 #[.slice a0 len0 cap0, .slice a1 len1 cap1, .slice a2 len2 cap2, .slice a3 len3 cap3] w fun e w' => e = .returned (.bool true) ∧ Below w.heap.size w w' := by
  subst he
  go_enter Try.func6, Try.ntmps6
  go_wp2_with (first | (go_at_call 17; refine (zzBytes a0 a1 a2 a3 len0 len1 len2 len2 cap0 cap1 cap2 cap3 S T w h0 h1).mono ?_; rintro e w' ⟨⟨bb, rfl⟩, hw⟩; replace hw := hw.symm; subst hw))
  all_goals (try (go_ret; exact ⟨rfl, Below.refl _ _⟩))
  go_loop [9, 10] (fun t i => ∃ (t' : Int) (k : Nat), t = .int .i64 t' ∧ i = .int .i64 k ∧ k ≤ len0) (fun _ i => len0 - (intOf i).toNat)
  case atStart => exact ⟨_, 0, rfl, rfl, by omega⟩
  case round =>
    obtain ⟨T0, k, rfl, rfl, hk⟩ := hrel
    by_cases hkl : k < len0
    · obtain ⟨b, off, rfl, hc⟩ := h0.str_at k hkl
      go_wp2
      · go_ret
        exact ⟨rfl, Below.refl _ _⟩
      · go_ret
        exact ⟨rfl, Below.refl _ _⟩
      · go_round
        case rel => exact ⟨_, k + 1, rfl, rfl, by omega⟩
        case measure => simp [intOf]; omega
    · go_wp2
      clear hk hkl
      go_loop [9, 11] (fun t i => ∃ (t' : Int) (k : Nat), t = .int .i64 t' ∧ i = .int .i64 k ∧ k ≤ len1) (fun _ i => len1 - (intOf i).toNat)
      case atStart => exact ⟨_, 0, rfl, rfl, by omega⟩
      case round =>
        obtain ⟨T1, k, rfl, rfl, hk⟩ := hrel
        by_cases hkl : k < len1
        · obtain ⟨b, off, rfl, hc⟩ := h1.str_at k hkl
          go_wp2
          · go_ret
            exact ⟨rfl, Below.refl _ _⟩
          · go_ret
            exact ⟨rfl, Below.refl _ _⟩
          · go_round
            case rel => exact ⟨_, k + 1, rfl, rfl, by omega⟩
            case measure => simp [intOf]; omega
        · go_wp2
          clear hk hkl
          go_loop [13] (fun i => ∃ (k : Nat), i = .int .i64 k ∧ k ≤ len2 ∧ Inside Z Y k len0) (fun i => len2 - (intOf i).toNat)
          case atStart => exact ⟨0, rfl, by omega, Inside.zero _ _ _⟩
          case round =>
            obtain ⟨k, rfl, hk, hin⟩ := hrel
            by_cases hkl : k < len2
            · obtain ⟨b2, off2, rfl, hc2⟩ := h2.num_at k hkl
              obtain ⟨b3, off3, rfl, hc3⟩ := h3.num_at k hkl
              generalize hz : Z k = z at hc2
              generalize hy : Y k = y at hc3
              have HZ : Hid (Z k = z) := hz
              have HY : Hid (Y k = y) := hy
              clear hz hy
              by_cases q1 : z < 0
              · go_wp2
                go_ret
                exact ⟨rfl, Below.refl _ _⟩
              by_cases q2 : (len0 : Int) ≤ z
              · go_wp2
                go_ret
                exact ⟨rfl, Below.refl _ _⟩
              by_cases q3 : y < 0
              · go_wp2
                go_ret
                exact ⟨rfl, Below.refl _ _⟩
              by_cases q4 : (len0 : Int) ≤ y
              · go_wp2
                go_ret
                exact ⟨rfl, Below.refl _ _⟩
              go_wp2
              go_round
              case rel => exact ⟨k + 1, rfl, by omega, hin.next (by rw [HZ.out]; omega) (by rw [HZ.out]; omega) (by rw [HY.out]; omega) (by rw [HY.out]; omega)⟩
              case measure => simp [intOf]; omega
            · have hkk : k = len2 := by omega
              have hin2 : Inside Z Y len2 len0 := by rw [← hkk]; exact hin
              clear hin hkk
              have k1 : True := trivial
              have k2 : True := trivial
              have k3 : True := trivial
              have k4 : True := trivial
              have k5 : True := trivial
              have k6 : True := trivial
              have k7 : True := trivial
              have k8 : True := trivial
              have k9 : True := trivial
              have k10 : True := trivial
              go_wp2_with (first
                | (have _t := k1; at_make; refine mk9 w rfl (.tmp 151) (.tmp 151) rfl _ _ _ _ len0 rfl rfl rfl rfl (by omega) ?_; intro w1 cur1 hh1 hs1 hb1 hl1; clear _t k1)
                | (have _t := k2; with_reducible refine at_copy ?_; refine cp w1 rfl (.tmp 153) (.tmp 154) 46 9 rfl Try.underlying46 size9 w.heap.size len0 a0 len0 cap0 rfl rfl w cur1 hh1 hs1 (str S) h0 (by omega) hb1 w hb1 (str_one S) ?_; intro w2 R1 hb2 hl2; clear hh1 hs1 hb1 hl1; clear _t k2)
                | (have _t := k3; at_make; refine mk9 w2 rfl (.tmp 156) (.tmp 156) rfl _ _ _ _ len0 rfl rfl rfl rfl (by omega) ?_; intro w3 cur3 hh3 hs3 hb3 hl3; clear _t k3)
                | (have _t := k4; with_reducible refine at_copy ?_; refine cp w3 rfl (.tmp 158) (.tmp 159) 46 9 rfl Try.underlying46 size9 w2.heap.size len0 a1 len1 cap1 rfl rfl w cur3 hh3 hs3 (str T) h1 (by omega) (hb2.trans (hb3.mono (Nat.le_of_lt hl2))) w2 hb3 (str_one T) ?_; intro w4 R2 hb4 hl4; have hB4 := hb2.trans (hb4.mono (Nat.le_of_lt hl2)); have R14 := R1.block (hb4.block _ hl2); clear hh3 hs3 hb3 hl3 R1; clear _t k4)
                | (have _t := k5; at_make; refine mk3 w4 rfl (.tmp 162) (.tmp 162) rfl _ _ _ _ len2 rfl rfl rfl rfl (by omega) ?_; intro w5 cur5 hh5 hs5 hb5 hl5; clear _t k5)
                | (have _t := k6; with_reducible refine at_copy ?_; refine cp w5 rfl (.tmp 164) (.tmp 165) 28 3 rfl Try.underlying28 size3 w4.heap.size len2 a2 len2 cap2 rfl rfl w cur5 hh5 hs5 (num Z) h2 (by omega) (hB4.trans (hb5.mono (Nat.le_of_lt (Nat.lt_trans hl2 hl4)))) w4 hb5 (num_one Z) ?_; intro w6 R3 hb6 hl6; have hB6 := hB4.trans (hb6.mono (Nat.le_of_lt (Nat.lt_trans hl2 hl4))); have R16 := R14.block (hb6.block _ (Nat.lt_trans hl2 hl4)); have R26 := R2.block (hb6.block _ hl4); clear hh5 hs5 hb5 hl5 R14 R2; clear _t k6)
                | (have _t := k7; at_make; refine mk3 w6 rfl (.tmp 168) (.tmp 168) rfl _ _ _ _ len2 rfl rfl rfl rfl (by omega) ?_; intro w7 cur7 hh7 hs7 hb7 hl7; clear _t k7)
                | (have _t := k8; with_reducible refine at_copy ?_; refine cp w7 rfl (.tmp 170) (.tmp 171) 28 3 rfl Try.underlying28 size3 w6.heap.size len2 a3 len2 cap3 rfl rfl w cur7 hh7 hs7 (num Y) h3 (by omega) (hB6.trans (hb7.mono (Nat.le_of_lt (Nat.lt_trans (Nat.lt_trans hl2 hl4) hl6)))) w6 hb7 (num_one Y) ?_; intro w8 R4 hb8 hl8; have hB8 := hB6.trans (hb8.mono (Nat.le_of_lt (Nat.lt_trans (Nat.lt_trans hl2 hl4) hl6))); have R18 := R16.block (hb8.block _ (Nat.lt_trans (Nat.lt_trans hl2 hl4) hl6)); have R28 := R26.block (hb8.block _ (Nat.lt_trans hl4 hl6)); have R38 := R3.block (hb8.block _ hl6); clear hh7 hs7 hb7 hl7 R16 R26 R3; clear _t k8)
                | (have _t := k9; at_make; refine mk39 w8 rfl (.tmp 174) (.tmp 174) rfl _ _ _ _ (2 * len0) rfl rfl (by omega) (by omega) (by omega) ?_; intro w9 cur9 hh9 hs9 hb9 hl9; clear _t k9)
                | (have _t := k10; at_make; refine mk3 w9 rfl (.tmp 176) (.tmp 176) rfl _ _ _ _ len0 rfl rfl rfl rfl (by omega) ?_; intro w10 cur10 hh10 hs10 hb10 hl10; clear _t k10))
              have R3 := R38.low (fun q hq => (hin2 q hq).1)
              have R4' := R4.low (fun q hq => (hin2 q hq).2.2.1)
              have lI : Low (fun q => (Z q).toNat) len2 len0 := fun q hq => by have := hin2 q hq; show (Z q).toNat < len0; omega
              have lJ : Low (fun q => (Y q).toNat) len2 len0 := fun q hq => by have := hin2 q hq; show (Y q).toNat < len0; omega
              generalize (fun q => (Z q).toNat) = I at R3 lI
              generalize (fun q => (Y q).toNat) = J at R4' lJ
              have q1 : w.heap.size < w8.heap.size := by omega
              have q2 : w2.heap.size < w8.heap.size := by omega
              have q3 : w4.heap.size < w8.heap.size := by omega
              have q4 : w6.heap.size < w8.heap.size := by omega
              have q5 : w8.heap.size < w9.heap.size := hl9
              have F0 : Filling w8 w8.heap.size w9.heap.size len0 (Xp S T (pm I J 0)) 0 w10 := Filling.start _ ((hb10.block _ hl9).trans hh9.out) hs9.out hh10.out (by simpa using hs10.out) (hb9.trans (hb10.mono (Nat.le_of_lt hl9)))
              clear hh9 hs9 hh10 hs10 hb9 hb10 hb8 hb6 hb4 hb2 hB4 hB6 R38 R4 hin2 hl2 hl4 hl6 hl8 hl9 hl10
              go_loopw [20] (fun iv wr => ∃ k : Nat, iv = .int .i64 k ∧ k ≤ len0 ∧ Filling w8 w8.heap.size w9.heap.size len0 (Xp S T (pm I J 0)) k wr) (fun iv _ => len0 - (intOf iv).toNat)
              case atStart => exact ⟨0, rfl, by omega, F0⟩
              case round =>
                clear F0
                obtain ⟨k, rfl, hk, hF⟩ := hrel
                by_cases hkl : k < len0
                · obtain ⟨I2, I3, oi, oi', wi, wi3, bi, bi', bi3, bi3', ti, ti3, eoi, eoi'⟩ := idx k len0 hkl (by omega)
                  have EI : Hid (oi = 3 * (2 * k)) := eoi
                  have EI' : Hid (oi' = 3 * (2 * k + 1)) := eoi'
                  clear eoi eoi'
                  have c1 : wr.cell? ⟨w.heap.size, k, none⟩ = some (.string (S k)) := (hF.bel.cell q1).trans (R18.cell k hkl)
                  have c2 : wr.cell? ⟨w2.heap.size, k, none⟩ = some (.string (T k)) := (hF.bel.cell q2).trans (R28.cell k hkl)
                  have n1 : ¬ w2.heap.size = w8.heap.size := by omega
                  have n2 : ¬ w8.heap.size = w2.heap.size := by omega
                  have n3 : ¬ w8.heap.size = w9.heap.size := by omega
                  have n4 : ¬ w9.heap.size = w8.heap.size := by omega
                  have j1 : True := trivial
                  have j2 : True := trivial
                  go_wp2_with (first
                    | (have _t := j1; go_at_call 18; refine (zzNew (S k) wr).mono ?_; rintro e u1 ⟨rfl, hg1⟩; obtain ⟨hf1, hs1⟩ := hF.one q5 hg1; have c2' := hg1.cell c2 (by simp); obtain ⟨v0, x0⟩ := hs1 oi (by have := EI.out; omega); obtain ⟨v1, x1⟩ := hs1 (oi + 1) (by have := EI.out; omega); obtain ⟨v2, x2⟩ := hs1 (oi + 2) (by have := EI.out; omega); clear _t j1 hs1)
                    | (have _t := j2; go_at_call 18; refine (zzNew (T k) _).mono ?_; rintro e u2 ⟨rfl, hg2⟩; have HG2 : (put3 u1 w8.heap.size (3 * (2 * k)) (S k)).grownBy u2 none := (by rw [← EI.out]; exact hg2); clear hg2; obtain ⟨hf2, hs2, hf3, hs3⟩ := hF.two q5 hg1 HG2; obtain ⟨y0, z0⟩ := hs2 oi' (by have := EI'.out; omega); obtain ⟨y1, z1⟩ := hs2 (oi' + 1) (by have := EI'.out; omega); obtain ⟨y2, z2⟩ := hs2 (oi' + 2) (by have := EI'.out; omega); obtain ⟨y3, z3⟩ := hs3 k hkl; clear _t j2 hs2 hs3))
                  go_roundw
                  case rel =>
                    have h := hF.next (fun p => rfl) hkl q5 hg1 HG2
                    rw [← EI'.out] at h
                    exact ⟨k + 1, rfl, by omega, h⟩
                  case measure => simp [intOf]; omega
                · have hkk : k = len0 := by omega
                  obtain ⟨hM, hR⟩ : Mem w8 w8.heap.size len0 S T (pm I J 0) wr ∧ Row wr w9.heap.size len0 (perm (pm I J 0)) := by
                    rw [hkk] at hF
                    exact hF.done (fun p => rfl)
                  have hB0 : Both w8 w8.heap.size w9.heap.size len0 S T (pm I J 0) wr := ⟨hM, hR, hF.lt⟩
                  clear hM hR hF hkk
                  go_wp2
                  go_loopw [21] (fun iv wr => ∃ k : Nat, iv = .int .i64 k ∧ k ≤ len2 ∧ Both w8 w8.heap.size w9.heap.size len0 S T (pm I J k) wr) (fun iv _ => len2 - (intOf iv).toNat)
                  case atStart => exact ⟨0, rfl, by omega, hB0⟩
                  case round =>
                    clear hB0
                    obtain ⟨k, rfl, hk, hB⟩ := hrel
                    by_cases hkl : k < len2
                    · have c3 : wr.cell? ⟨w4.heap.size, k, none⟩ = some (.int .i64 (I k : Nat)) := (hB.mem.bel.cell q3).trans (R3.cell k hkl)
                      have c4 : wr.cell? ⟨w6.heap.size, k, none⟩ = some (.int .i64 (J k : Nat)) := (hB.mem.bel.cell q4).trans (R4'.cell k hkl)
                      have hi := lI k hkl
                      have hj := lJ k hkl
                      have hfun : pm I J (k + 1) = sw (pm I J k) (I k) (J k) := rfl
                      generalize pm I J k = f at hB hfun
                      generalize I k = i at c3 hi hfun
                      generalize J k = j at c4 hj hfun
                      have HFUN : Hid (pm I J (k + 1) = sw f i j) := hfun
                      clear hfun
                      have pi : wr.cell? ⟨w9.heap.size, i, none⟩ = some (.int .i64 (f i : Nat)) := hB.row.cell i hi
                      have pj : wr.cell? ⟨w9.heap.size, j, none⟩ = some (.int .i64 (f j : Nat)) := hB.row.cell j hj
                      have hV := hB.mem.vals
                      have hVd := hV.drew
                      have hlt := hB.lt
                      have n1 : ¬ w9.heap.size = w4.heap.size := by omega
                      have n2 : ¬ w4.heap.size = w9.heap.size := by omega
                      have n3 : ¬ w9.heap.size = w6.heap.size := by omega
                      have n4 : ¬ w6.heap.size = w9.heap.size := by omega
                      by_cases hij : i = j
                      · subst hij
                        go_wp2
                        go_region_with (go_at_call 19; refine (zzSwap w8.heap.size len0 (2 * len0) i i (Xp S T f) _ hi hj (by omega) (by first | omega | (simp; omega)) (by first | exact hV | exact hVd)).mono ?_; rintro e u1 ⟨rfl, hv1, hg1⟩; have hg : wr.grownBy u1 (some w8.heap.size) := ⟨hg1.os, hg1.tape, hg1.output, hg1.size, hg1.block⟩; clear hg1; have c3' := hg.cell c3 (by simp; omega); have c4' := hg.cell c4 (by simp; omega); have pi' := hg.cell pi (by simp; omega); have pj' := hg.cell pj (by simp; omega); have hf := (hB.row.block (hg.block _ hlt (by simp; omega))).free)
                        all_goals (try go_wp2)
                        all_goals (
                          have H := hB.swapped q5 hv1 hg
                          rw [← HFUN.out] at H
                          exact ⟨⟨k + 1, rfl, by omega, by first | exact H | exact H.drew⟩, by simp [intOf]; omega⟩)
                      · have hji : ¬ j = i := fun e => hij e.symm
                        go_wp2
                        go_region_with (go_at_call 19; refine (zzSwap w8.heap.size len0 (2 * len0) i j (Xp S T f) _ hi hj (by omega) (by first | omega | (simp; omega)) (by first | exact hV | exact hVd)).mono ?_; rintro e u1 ⟨rfl, hv1, hg1⟩; have hg : wr.grownBy u1 (some w8.heap.size) := ⟨hg1.os, hg1.tape, hg1.output, hg1.size, hg1.block⟩; clear hg1; have c3' := hg.cell c3 (by simp; omega); have c4' := hg.cell c4 (by simp; omega); have pi' := hg.cell pi (by simp; omega); have pj' := hg.cell pj (by simp; omega); have hf := (hB.row.block (hg.block _ hlt (by simp; omega))).free)
                        all_goals (try go_wp2)
                        all_goals (
                          have H := hB.swapped q5 hv1 hg
                          rw [← HFUN.out] at H
                          exact ⟨⟨k + 1, rfl, by omega, by first | exact H | exact H.drew⟩, by simp [intOf]; omega⟩)
                    · have hkk : k = len2 := by omega
                      have hBe : Both w8 w8.heap.size w9.heap.size len0 S T (pm I J len2) wr := by rw [← hkk]; exact hB
                      clear hB hkk
                      go_wp2
                      go_loopw [24] (fun iv wr => ∃ k : Nat, iv = .int .i64 k ∧ k ≤ len0 ∧ Both w8 w8.heap.size w9.heap.size len0 S T (pm I J len2) wr) (fun iv _ => len0 - (intOf iv).toNat)
                      case atStart => exact ⟨0, rfl, by omega, hBe⟩
                      case round =>
                        clear hBe
                        obtain ⟨p, rfl, hp, hB⟩ := hrel
                        by_cases hpl : p < len0
                        · obtain ⟨I2, I3, oi, oi', wi, wi3, bi, bi', bi3, bi3', ti, ti3, eoi, eoi'⟩ := idx p len0 hpl (by omega)
                          have x0 : wr.cell? ⟨w8.heap.size, oi, none⟩ = some (.string (S (pm I J len2 p))) := by
                            have h := hB.mem.vals.c0 (2 * p) (by omega)
                            rw [Xp_even] at h
                            rw [eoi]; exact h
                          have x1 : wr.cell? ⟨w8.heap.size, oi', none⟩ = some (.string (T (pm I J len2 p))) := by
                            have h := hB.mem.vals.c0 (2 * p + 1) (by omega)
                            rw [Xp_odd] at h
                            rw [eoi']; exact h
                          clear eoi eoi'
                          have pp : wr.cell? ⟨w9.heap.size, p, none⟩ = some (.int .i64 (pm I J len2 p : Nat)) := hB.row.cell p hpl
                          have hfp : pm I J len2 p < len0 := pm_lt lI lJ len2 (Nat.le_refl _) p hpl
                          generalize pm I J len2 p = fp at x0 x1 pp hfp
                          have ck : wr.cell? ⟨w.heap.size, fp, none⟩ = some (.string (S fp)) := (hB.mem.bel.cell q1).trans (R18.cell fp hfp)
                          have cv : wr.cell? ⟨w2.heap.size, fp, none⟩ = some (.string (T fp)) := (hB.mem.bel.cell q2).trans (R28.cell fp hfp)
                          go_wp2
                          go_quiet (first | (go_at_call_of 20 oi; refine Calls.quiet_of_same (zzText w8.heap.size oi (S fp) _ (by simpa using x0))) | (go_at_call_of 20 oi'; refine Calls.quiet_of_same (zzText w8.heap.size oi' (T fp) _ (by simpa using x1))))
                          go_wp2
                          go_roundw
                          case rel => exact ⟨p + 1, rfl, by omega, by first | exact hB | exact hB.drewN _⟩
                          case measure => simp [intOf]; omega
                        · have hM := hB.mem
                          clear hB
                          go_wp2
                          go_loopw [25] (fun iv wr => ∃ z : Int, iv = .int .i64 z ∧ -1 ≤ z ∧ z < len2 ∧ Mem w8 w8.heap.size len0 S T (pm I J (z + 1).toNat) wr) (fun iv _ => (intOf iv + 1).toNat)
                          case atStart =>
                            have e : ((len2 : Int) - 1 + 1).toNat = len2 := by omega
                            exact ⟨(len2 : Int) - 1, rfl, by omega, by omega, by rw [e]; exact hM⟩
                          case round =>
                            clear hM
                            obtain ⟨z, rfl, hz1, hz2, hM⟩ := hrel
                            by_cases hz0 : 0 ≤ z
                            · obtain ⟨k, rfl⟩ := Int.eq_ofNat_of_zero_le hz0
                              have hkl : k < len2 := by omega
                              have e1 : ((k : Int) + 1).toNat = k + 1 := by omega
                              rw [e1] at hM
                              have c3 : wr.cell? ⟨w4.heap.size, k, none⟩ = some (.int .i64 (I k : Nat)) := (hM.bel.cell q3).trans (R3.cell k hkl)
                              have c4 : wr.cell? ⟨w6.heap.size, k, none⟩ = some (.int .i64 (J k : Nat)) := (hM.bel.cell q4).trans (R4'.cell k hkl)
                              have hi := lI k hkl
                              have hj := lJ k hkl
                              have hfun : pm I J ((k : Int) - 1 + 1).toNat = sw (pm I J (k + 1)) (I k) (J k) := by
                                have e2 : ((k : Int) - 1 + 1).toNat = k := by omega
                                rw [e2]
                                show _ = sw (sw (pm I J k) (I k) (J k)) (I k) (J k)
                                rw [sw_sw]
                              generalize pm I J (k + 1) = f at hM hfun
                              generalize I k = i at c3 hi hfun
                              generalize J k = j at c4 hj hfun
                              have HFUN : Hid (pm I J ((k : Int) - 1 + 1).toNat = sw f i j) := hfun
                              clear hfun e1
                              have hV := hM.vals
                              have hVd := hV.drew
                              have hlt : w8.heap.size < wr.heap.size := World.block_lt_of_cell? wr _ (hV.c0 0 (by omega))
                              go_wp2
                              go_region_with (go_at_call 19; refine (zzSwap w8.heap.size len0 (2 * len0) i j (Xp S T f) _ hi hj (by omega) (by first | omega | (simp; omega)) (by first | exact hV | exact hVd)).mono ?_; rintro e u1 ⟨rfl, hv1, hg1⟩; have hg : wr.grownBy u1 (some w8.heap.size) := ⟨hg1.os, hg1.tape, hg1.output, hg1.size, hg1.block⟩; clear hg1)
                              all_goals (try go_wp2)
                              all_goals (
                                have H := hM.swapped hlt hv1 hg
                                rw [← HFUN.out] at H
                                exact ⟨⟨(k : Int) - 1, rfl, by omega, by omega, by first | exact H | exact H.drew⟩, by first | (simp [intOf]; done) | (simp [intOf]; omega)⟩)
                            · have hz : z = -1 := by omega
                              subst hz
                              have hM0 : Mem w8 w8.heap.size len0 S T (pm I J 0) wr := hM
                              clear hM
                              go_wp2
                              go_loopw [26] (fun iv wr => ∃ k : Nat, iv = .int .i64 k ∧ k ≤ len0 ∧ Mem w8 w8.heap.size len0 S T (pm I J 0) wr) (fun iv _ => len0 - (intOf iv).toNat)
                              case atStart => exact ⟨0, rfl, by omega, hM0⟩
                              case round =>
                                clear hM0
                                obtain ⟨p, rfl, hp, hM⟩ := hrel
                                by_cases hpl : p < len0
                                · obtain ⟨I2, I3, oi, oi', wi, wi3, bi, bi', bi3, bi3', ti, ti3, eoi, eoi'⟩ := idx p len0 hpl (by omega)
                                  have x0 : wr.cell? ⟨w8.heap.size, oi, none⟩ = some (.string (S p)) := by
                                    have h := hM.vals.c0 (2 * p) (by omega)
                                    rw [Xp_even] at h
                                    rw [eoi]; exact h
                                  have x1 : wr.cell? ⟨w8.heap.size, oi', none⟩ = some (.string (T p)) := by
                                    have h := hM.vals.c0 (2 * p + 1) (by omega)
                                    rw [Xp_odd] at h
                                    rw [eoi']; exact h
                                  clear eoi eoi'
                                  have ck : wr.cell? ⟨w.heap.size, p, none⟩ = some (.string (S p)) := (hM.bel.cell q1).trans (R18.cell p hpl)
                                  have cv : wr.cell? ⟨w2.heap.size, p, none⟩ = some (.string (T p)) := (hM.bel.cell q2).trans (R28.cell p hpl)
                                  go_wp2
                                  go_quiet (first | (go_at_call_of 20 oi; refine Calls.quiet_of_same (zzText w8.heap.size oi (S p) _ (by simpa using x0))) | (go_at_call_of 20 oi'; refine Calls.quiet_of_same (zzText w8.heap.size oi' (T p) _ (by simpa using x1))))
                                  go_wp2
                                  go_roundw
                                  case rel => exact ⟨p + 1, rfl, by omega, by first | exact hM | exact hM.drewN _⟩
                                  case measure => simp [intOf]; omega
                                · go_wp2
                                  go_ret
                                  exact ⟨rfl, hB8.trans (hM.bel.mono (Nat.le_of_lt q1))⟩

end Swap
end Go.Proofs.Qxb6001722a

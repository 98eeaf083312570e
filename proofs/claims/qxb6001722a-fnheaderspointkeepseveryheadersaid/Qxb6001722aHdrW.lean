/-
  The headers law, walked whole.
-/
import Derived.Test.Qxb6001722aHdrE
import Derived.RegionTactic
import Derived.BigRegion
namespace Go.Proofs.Qxb6001722a
open Go.ChangeShapes Go.WideShapes Go.ChangeAt Go.RowKit
namespace Hdr
open Swap (Arg num Row Boolish boolish updv mk39)
set_option linter.unusedVariables false

set_option maxRecDepth 100000 in
set_option maxHeartbeats 6400000 in
theorem go (a : Option Addr) (len cap : Nat) (Z : Nat → Int) (w : World) (h : Arg w a len (num Z)) (h0 : a = none → len = 0 ∧ cap = 0) (hl : len ≤ 1024) :
    Calls Try.prog 5 #[.slice a len cap] w fun e w' => e = .returned (.bool true) ∧ Below w.heap.size w w' := by
  have t1 : True := trivial
  have t2 : True := trivial
  have t3 : True := trivial
  go_enter Try.func5, Try.ntmps5
  go_wp2_with (first
    | (go_at_call 11; refine (bytes a len cap w).mono ?_; rintro e w' ⟨⟨bb, rfl⟩, hw⟩; replace hw := hw.symm; subst hw)
    | (have _t := t1; go_at_call 12; refine (clone a len cap Z w h h0 hl).mono ?_; rintro e w1 ⟨ao, cap1, rfl, hArg, hb1⟩; clear _t t1)
    | (have _t := t2; at_make; refine mk34z _ rfl (.tmp 26) (.tmp 26) rfl _ _ _ _ len rfl rfl rfl rfl (by omega) ?_; intro w3 Rp0 hb30 hl30; have Rp : Row w3 (w1.heap.size + 1) len (fun _ => .pointer none) := (by simpa using Rp0); have hb3 : Below (w1.heap.size + 1) (w1.alloc (.cells #[.slice none 0 0] 33)) w3 := (by simpa using hb30); have hl3 : w1.heap.size + 1 < w3.heap.size := (by simpa using hl30); clear _t t2 Rp0 hb30 hl30)
    | (have _t := t3; at_make; refine mk31f w3 rfl (.tmp 29) (.tmp 29) rfl _ _ _ _ len rfl rfl rfl rfl (by omega) ?_; intro w4 cur4 hh4 hs4 hb4 hl4; clear _t t3))
  all_goals (try (go_ret; exact ⟨rfl, Below.refl _ _⟩))
  have HI : Inv w1 w1.heap.size (w1.heap.size + 1) w3.heap.size len Z 0 (.slice none 0 0) (fun _ => .pointer none) _ w4 := Inv.start Z hb3 Rp hl3 hb4 (Row.of_heap hh4.out (by simpa using hs4.out)) hl4
  generalize hLV : (fun p => cur4.getD p undef) = LV0 at HI
  clear hLV hh4 hs4 hb3 Rp hb4 hl4
  have hNil : Nils (fun _ => .pointer none) 0 len := fun i _ _ => rfl
  generalize (fun _ : Nat => Value.pointer none) = PV0 at HI hNil
  go_loopw [6] (fun iv wr => ∃ (k : Nat) (hv : Value) (PV LV : Nat → Value), iv = .int .i64 k ∧ k ≤ len ∧ Inv w1 w1.heap.size (w1.heap.size + 1) w3.heap.size len Z k hv PV LV wr ∧ Nils PV k len) (fun iv _ => len - (intOf iv).toNat)
  case atStart => exact ⟨0, _, _, _, rfl, by omega, HI, hNil⟩
  case round =>
    clear HI hNil
    obtain ⟨k, hv, PV, LV, rfl, hk, HI, hNil⟩ := hrel
    by_cases hkl : k < len
    · obtain ⟨b0, off, rfl, hcz⟩ := hArg.num_at k hkl
      have hcc : wr.cell? ⟨b0, off + k, none⟩ = some (.int .i64 (Z k)) := (HI.bel.cell (World.block_lt_of_cell? w1 _ hcz)).trans hcz
      generalize hcn : cnt Z k = n
      have hn8 : n ≤ 8 := by rw [← hcn]; exact cnt_lt Z k
      have HN : Hid (cnt Z k = n) := hcn
      have htm : ((Z k).tmod 9).natAbs = n := hcn
      clear hcn
      by_cases hsg : (Z k).tmod 9 < 0
      · have hm : (Z k).tmod 9 = -(n : Int) := by omega
        have hn0 : 0 < n := by omega
        clear htm hsg
        have o1 : True := trivial
        go_wp2_with (first | (have _t := o1; at_make; refine mk39 wr rfl (.tmp 46) (.tmp 46) rfl _ _ _ _ n rfl rfl (by omega) (by omega) (by omega) ?_; intro u0 cur hh hs hbu hlu; clear _t o1))
        have HL : Lay wr wr.heap.size n k 0 u0 := Lay.start hh.out hs.out hbu
        clear hh hs hbu hlu
        obtain ⟨wo, rfl⟩ : ∃ wo : World, wo = wr := ⟨_, rfl⟩
        go_loopw [9] (fun jv wr => ∃ j : Nat, jv = .int .i64 j ∧ j ≤ n ∧ Lay wo wo.heap.size n k j wr) (fun jv _ => n - (intOf jv).toNat)
        case atStart => exact ⟨0, rfl, by omega, HL⟩
        case round =>
          clear HL
          obtain ⟨j, rfl, hj, hL⟩ := hrel
          by_cases hjn : j < n
          · obtain ⟨oj, hoj⟩ : ∃ oj, j * 3 = oj := ⟨_, rfl⟩
            have EOJ : Hid (oj = 3 * j) := (by show oj = 3 * j; omega)
            go_wp2_with (first
              | (go_at_call 14; refine (itoa' k j wr (by omega)).mono ?_; rintro e v1 ⟨rfl, hbv⟩; have hL1 := hL.below hbv; clear hbv)
              | (go_at_call 13; refine (make (Itoa.text (k * 9 + j)) v1).mono ?_; rintro e v2 ⟨rfl, hgv⟩; have hL2 := hL1.grown hgv; clear hgv; have hf := hL2.free; obtain ⟨x0, y0⟩ := hL2.some_ oj (by have := EOJ.out; omega); obtain ⟨x1, y1⟩ := hL2.some_ (oj + 1) (by have := EOJ.out; omega); obtain ⟨x2, y2⟩ := hL2.some_ (oj + 2) (by have := EOJ.out; omega)))
            go_roundw
            case rel =>
              have h := hL2.put hjn (.pointer none) (.int .u64 2)
              rw [← EOJ.out] at h
              exact ⟨j + 1, rfl, by omega, h⟩
            case measure => simp [intOf]; omega
          · have hjj : j = n := by omega
            have HLn : Lay wo wo.heap.size n k n wr := (by rw [← hjj]; rw [← hjj] at hL; exact hL)
            have HIu := HI.below HLn.bel
            clear hjj hL
            have hne : ((n : Int) == 0) = false := beq_eq_false_iff_ne.2 (by omega)
            have n1 : ¬ w1.heap.size + 1 = w3.heap.size := by omega
            have n2 : ¬ w3.heap.size = w1.heap.size + 1 := by omega
            go_wp2_with (first
              | (go_at_call 15; refine (zzPoint w1.heap.size hv wo.heap.size n wr HIu.box hn0 (by omega)).mono ?_; rintro e u2 ⟨g, o, hv', rfl, hLd⟩; have hfp := (HIu.point hLd).1.rp.free; have hcp := (HIu.point hLd).1.rp.cell k hkl; have hfl := (HIu.point hLd).1.rl.free; have hcl := (HIu.point hLd).1.rl.cell k hkl))
            go_roundw
            case rel =>
              have hLd' : Laid1 w1.heap.size hv wr (.slice (some ⟨wo.heap.size, 0, none⟩) (cnt Z k) (cnt Z k)) g o hv' u2 := by rw [HN.out]; exact hLd
              have hs1 := HI.box.lt
              have hs2 := HI.pl
              have hs3 := HI.ll
              have HS := HIu.set (b := wo.heap.size) hLd' hkl (by rw [HN.out]; exact hn0) (by rw [HN.out]; exact HLn.texts) HLn.lt (by omega) (by omega) (by omega) (fun hc => Nat.lt_irrefl _ (HI.box.cur_lt hc))
              rw [HN.out] at HS
              exact ⟨k + 1, hv', _, _, rfl, by omega, HS, hNil.set _⟩
            case measure => simp [intOf]; omega
      · have hm : (Z k).tmod 9 = (n : Int) := by omega
        clear htm hsg
        by_cases hn0 : 0 < n
        · have o1 : True := trivial
          go_wp2_with (first | (have _t := o1; at_make; refine mk39 wr rfl (.tmp 46) (.tmp 46) rfl _ _ _ _ n rfl rfl (by omega) (by omega) (by omega) ?_; intro u0 cur hh hs hbu hlu; clear _t o1))
          have HL : Lay wr wr.heap.size n k 0 u0 := Lay.start hh.out hs.out hbu
          clear hh hs hbu hlu
          obtain ⟨wo, rfl⟩ : ∃ wo : World, wo = wr := ⟨_, rfl⟩
          go_loopw [9] (fun jv wr => ∃ j : Nat, jv = .int .i64 j ∧ j ≤ n ∧ Lay wo wo.heap.size n k j wr) (fun jv _ => n - (intOf jv).toNat)
          case atStart => exact ⟨0, rfl, by omega, HL⟩
          case round =>
            clear HL
            obtain ⟨j, rfl, hj, hL⟩ := hrel
            by_cases hjn : j < n
            · obtain ⟨oj, hoj⟩ : ∃ oj, j * 3 = oj := ⟨_, rfl⟩
              have EOJ : Hid (oj = 3 * j) := (by show oj = 3 * j; omega)
              go_wp2_with (first
                | (go_at_call 14; refine (itoa' k j wr (by omega)).mono ?_; rintro e v1 ⟨rfl, hbv⟩; have hL1 := hL.below hbv; clear hbv)
                | (go_at_call 13; refine (make (Itoa.text (k * 9 + j)) v1).mono ?_; rintro e v2 ⟨rfl, hgv⟩; have hL2 := hL1.grown hgv; clear hgv; have hf := hL2.free; obtain ⟨x0, y0⟩ := hL2.some_ oj (by have := EOJ.out; omega); obtain ⟨x1, y1⟩ := hL2.some_ (oj + 1) (by have := EOJ.out; omega); obtain ⟨x2, y2⟩ := hL2.some_ (oj + 2) (by have := EOJ.out; omega)))
              go_roundw
              case rel =>
                have h := hL2.put hjn (.pointer none) (.int .u64 2)
                rw [← EOJ.out] at h
                exact ⟨j + 1, rfl, by omega, h⟩
              case measure => simp [intOf]; omega
            · have hjj : j = n := by omega
              have HLn : Lay wo wo.heap.size n k n wr := (by rw [← hjj]; rw [← hjj] at hL; exact hL)
              have HIu := HI.below HLn.bel
              clear hjj hL
              have hne : ((n : Int) == 0) = false := beq_eq_false_iff_ne.2 (by omega)
              have n1 : ¬ w1.heap.size + 1 = w3.heap.size := by omega
              have n2 : ¬ w3.heap.size = w1.heap.size + 1 := by omega
              go_wp2_with (first
                | (go_at_call 15; refine (zzPoint w1.heap.size hv wo.heap.size n wr HIu.box hn0 (by omega)).mono ?_; rintro e u2 ⟨g, o, hv', rfl, hLd⟩; have hfp := (HIu.point hLd).1.rp.free; have hcp := (HIu.point hLd).1.rp.cell k hkl; have hfl := (HIu.point hLd).1.rl.free; have hcl := (HIu.point hLd).1.rl.cell k hkl))
              go_roundw
              case rel =>
                have hLd' : Laid1 w1.heap.size hv wr (.slice (some ⟨wo.heap.size, 0, none⟩) (cnt Z k) (cnt Z k)) g o hv' u2 := by rw [HN.out]; exact hLd
                have hs1 := HI.box.lt
                have hs2 := HI.pl
                have hs3 := HI.ll
                have HS := HIu.set (b := wo.heap.size) hLd' hkl (by rw [HN.out]; exact hn0) (by rw [HN.out]; exact HLn.texts) HLn.lt (by omega) (by omega) (by omega) (fun hc => Nat.lt_irrefl _ (HI.box.cur_lt hc))
                rw [HN.out] at HS
                exact ⟨k + 1, hv', _, _, rfl, by omega, HS, hNil.set _⟩
              case measure => simp [intOf]; omega
        · have hnz : n = 0 := by omega
          subst hnz
          have o1 : True := trivial
          go_wp2_with (first | (have _t := o1; at_make; refine mk39 wr rfl (.tmp 46) (.tmp 46) rfl _ _ _ _ 0 rfl rfl (by omega) (by omega) (by omega) ?_; intro u0 cur hh hs hbu hlu; clear _t o1))
          have HL : Lay wr wr.heap.size 0 k 0 u0 := Lay.start hh.out hs.out hbu
          clear hh hs hbu hlu
          obtain ⟨wo, rfl⟩ : ∃ wo : World, wo = wr := ⟨_, rfl⟩
          go_loopw [9] (fun jv wr => ∃ j : Nat, jv = .int .i64 j ∧ j ≤ 0 ∧ Lay wo wo.heap.size 0 k j wr) (fun jv _ => 0 - (intOf jv).toNat)
          case atStart => exact ⟨0, rfl, by omega, HL⟩
          case round =>
            clear HL
            obtain ⟨j, rfl, hj, hL⟩ := hrel
            by_cases hjn : j < 0
            · exact absurd hjn (Nat.not_lt_zero _)
            · have hjj : j = 0 := by omega
              have HLn : Lay wo wo.heap.size 0 k 0 wr := (by rw [← hjj]; rw [← hjj] at hL; exact hL)
              have HIu := HI.below HLn.bel
              clear hjj hL
              go_wp2_with (first
                | (go_at_call 15; refine (zzPoint_none w1.heap.size wo.heap.size wr).mono ?_; rintro e u2 ⟨rfl, hw⟩; replace hw := hw.symm; subst hw))
              go_roundw
              case rel => exact ⟨k + 1, hv, PV, LV, rfl, by omega, HIu.skip HN.out (hNil k (Nat.le_refl _) hkl), hNil.next⟩
              case measure => simp [intOf]; omega
    · have hkk : k = len := by omega
      have HIe := HI
      rw [hkk] at HIe
      clear HI hNil hk hkk
      obtain ⟨we, rfl⟩ : ∃ we : World, we = wr := ⟨_, rfl⟩
      go_wp2
      go_loopw [11] (fun iv wr => ∃ i : Nat, iv = .int .i64 i ∧ i ≤ len ∧ Below we.heap.size we wr) (fun iv _ => len - (intOf iv).toNat)
      case atStart => exact ⟨0, rfl, by omega, Below.refl _ _⟩
      case round =>
        obtain ⟨i, rfl, hi, hbe⟩ := hrel
        by_cases hil : i < len
        · have cp : wr.cell? ⟨w1.heap.size + 1, i, none⟩ = some (PV i) := (hbe.cell HIe.pl).trans (HIe.rp.cell i hil)
          have cl : wr.cell? ⟨w3.heap.size, i, none⟩ = some (LV i) := (hbe.cell HIe.ll).trans (HIe.rl.cell i hil)
          by_cases hc0 : 0 < cnt Z i
          · obtain ⟨c, o, b, hE⟩ := HIe.some_ i hil hc0
            have hap : ∀ q, q < i → PV q ≠ .pointer (some ⟨c, o, none⟩) := fun q hq => by rw [← hE.pv]; exact HIe.apart q i hq hil hc0
            rw [hE.pv] at cp
            rw [hE.lv] at cl
            have cc : wr.cell? ⟨c, o, none⟩ = some (.slice (some ⟨b, 0, none⟩) (cnt Z i) (cnt Z i)) := (hbe.cell hE.live.1).trans hE.cell
            have ht : Texts we b (cnt Z i) i := hE.texts
            have hbl := hE.bl
            have hn8 := cnt_lt Z i
            have hPl := hE.plain
            have hcl := hE.live.1
            have HAP : Hid (∀ q, q < i → PV q ≠ .pointer (some ⟨c, o, none⟩)) := hap
            clear hE hap
            generalize cnt Z i = n at cl cc ht hc0 hn8
            have hnp := nep wr.drew ⟨b, 0, none⟩
            go_wp2
            go_region
            all_goals (try go_wp2)
            clear hnp
            go_loopw [15] (fun jv wr => ∃ j : Nat, jv = .int .i64 j ∧ j ≤ n ∧ Below we.heap.size we wr) (fun jv _ => n - (intOf jv).toNat)
            case atStart => exact ⟨0, rfl, by omega, hbe.drew⟩
            case round =>
              clear hbe cp cl cc
              obtain ⟨j, rfl, hj, hbe⟩ := hrel
              by_cases hjn : j < n
              · obtain ⟨oj, hoj⟩ : ∃ oj, j * 3 = oj := ⟨_, rfl⟩
                have ct : wr.cell? ⟨b, oj, none⟩ = some (.string (Itoa.text (i * 9 + j))) := (by
                  rw [← hoj, Nat.mul_comm j 3]
                  exact (hbe.cell hbl).trans (ht j hjn))
                go_wp2_with (first
                  | (go_at_call 16; refine (text b oj (Itoa.text (i * 9 + j)) wr ct).mono ?_; rintro e v ⟨rfl, hw⟩; replace hw := hw.symm; subst hw)
                  | (go_at_call 14; refine (itoa' i j wr (by omega)).mono ?_; rintro e v1 ⟨rfl, hbv⟩))
                go_roundw
                case rel => exact ⟨j + 1, rfl, by omega, hbe.trans (hbv.mono hbe.size)⟩
                case measure => simp [intOf]; omega
              · go_wp2
                go_loop [16] (fun qv => ∃ q : Nat, qv = .int .i64 q ∧ q ≤ i) (fun qv => i - (intOf qv).toNat)
                case atStart => exact ⟨0, rfl, by omega⟩
                case round =>
                  obtain ⟨q, rfl, hq⟩ := hrel
                  by_cases hqi : q < i
                  · have cq : wr.cell? ⟨w1.heap.size + 1, q, none⟩ = some (PV q) := (hbe.cell HIe.pl).trans (HIe.rp.cell q (by omega))
                    have hne := HAP.out q hqi
                    by_cases hcq : 0 < cnt Z q
                    · obtain ⟨c', o', b', hE'⟩ := HIe.some_ q (by omega) hcq
                      rw [hE'.pv] at cq hne
                      have heq := eqp wr (x := ⟨c', o', none⟩) (y := ⟨c, o, none⟩) (fun e => hne (by rw [e])) (hE'.plain.block (hbe.block _ hE'.live.1)) (hPl.block (hbe.block _ hcl))
                      clear hne
                      go_wp2
                      go_round
                      case rel => exact ⟨q + 1, rfl, by omega⟩
                      case measure => simp [intOf]; omega
                    · have hz := HIe.none_ q (by omega) (by omega)
                      rw [hz] at cq
                      clear hz hne
                      have heq := eqn wr ⟨c, o, none⟩
                      go_wp2
                      go_round
                      case rel => exact ⟨q + 1, rfl, by omega⟩
                      case measure => simp [intOf]; omega
                  · go_wp2
                    go_roundw
                    case rel => exact ⟨i + 1, rfl, by omega, hbe⟩
                    case measure => simp [intOf]; omega
          · have hz := HIe.none_ i hil (by omega)
            rw [hz] at cp
            clear hz
            go_wp2
            go_roundw
            case rel => exact ⟨i + 1, rfl, by omega, hbe⟩
            case measure => simp [intOf]; omega
        · go_wp2
          go_ret
          exact ⟨rfl, hb1.trans ((HIe.bel.trans (hbe.mono HIe.bel.size)).mono hb1.size)⟩
set_option maxRecDepth 100000 in
set_option maxHeartbeats 1600000 in
theorem long (a : Option Addr) (len cap : Nat) (w : World) (hl : 1024 < len) : Calls Try.prog 5 #[.slice a len cap] w fun e w' => e = .returned (.bool true) ∧ Below w.heap.size w w' := by
  go_enter Try.func5, Try.ntmps5
  go_wp2_with (first | (go_at_call 11; refine (bytes a len cap w).mono ?_; rintro e w' ⟨⟨bb, rfl⟩, hw⟩; replace hw := hw.symm; subst hw))
  all_goals (go_ret; exact ⟨rfl, Below.refl _ _⟩)
end Hdr
end Go.Proofs.Qxb6001722a

/-
  zzItoa for small numbers: one plain function of the number.
-/
import Derived.Test.Qxb6001722aRows
import Derived.WalkKit
import Derived.ProofKit
import Derived.OpenShut
import Derived.Handy
import Derived.WalkSpells
import Derived.Laws.BytesArg
namespace Go.Proofs.Qxb6001722a
open Go.ChangeShapes Go.WideShapes Go.ChangeAt Go.RowKit
namespace Itoa
set_option linter.unusedVariables false

/-- The last k digits, the highest first. -/
def dl (z : Nat) : Nat → List Int
  | 0 => []
  | k + 1 => (48 + ((z / 10 ^ k : Nat) : Int) % 10) :: dl z k
def nd (z : Nat) : Nat := if z < 10 then 1 else if z < 100 then 2 else if z < 1000 then 3 else if z < 10000 then 4 else 5
/-- The number's text. -/
def text (z : Nat) : ByteArray := strOfNums (dl z (nd z))

theorem dl_length (z : Nat) : ∀ k, (dl z k).length = k
  | 0 => rfl
  | k + 1 => by simp [dl, dl_length z k]

/-- k digits are laid at the array's end, from place q on. -/
structure Laid (b z q k : Nat) (w : World) : Prop where
  sum : q + k = 24
  small : k ≤ 4
  more : k = 0 ∨ 0 < z / 10 ^ k
  free : ∀ o, w.frozen? ⟨b, o, none⟩ = false
  some_ : ∀ o, o < 24 → ∃ v, w.cell? ⟨b, o, none⟩ = some v
  cell : ∀ i, i < k → w.cell? ⟨b, q + i, none⟩ = some (.int .u8 ((dl z k).getD i 0))
  bel : True

theorem other {w : World} {b o p : Nat} {v : Value} (h : o ≠ p) : (w.setCell ⟨b, o, none⟩ v).cell? ⟨b, p, none⟩ = w.cell? ⟨b, p, none⟩ :=
  World.cell?_setCell_other _ _ _ _ (fun e => h (congrArg Addr.off e))

theorem Laid.cells {b z q k : Nat} {w : World} (h : Laid b z (q + 1) k w) : ∀ i, i < k + 1 → (w.setCell ⟨b, q, none⟩ (.int .u8 (48 + ((z / 10 ^ k : Nat) : Int) % 10))).cell? ⟨b, q + i, none⟩ = some (.int .u8 ((dl z (k + 1)).getD i 0)) := by
  intro i hi
  have hs := h.sum
  cases i with
  | zero =>
    obtain ⟨v, hv⟩ := h.some_ q (by omega)
    exact World.cell?_setCell_same _ _ _ hv
  | succ i =>
    rw [other (by omega), show q + (i + 1) = q + 1 + i by omega, h.cell i (by omega)]
    rfl

theorem Laid.next {b z q k : Nat} {w : World} (h : Laid b z (q + 1) k w) (hz : z < 100000) (hm : 0 < z / 10 ^ (k + 1)) : Laid b z q (k + 1) (w.setCell ⟨b, q, none⟩ (.int .u8 (48 + ((z / 10 ^ k : Nat) : Int) % 10))) := by
  have hs := h.sum
  refine ⟨by omega, ?_, .inr hm, fun o => by simpa using h.free o, fun o ho => ?_, h.cells, trivial⟩
  · have h4 := h.small
    rcases Nat.lt_or_ge k 4 with hk | hk
    · exact hk
    · exfalso
      have : k = 4 := by omega
      subst this
      have : z / 10 ^ (4 + 1) = 0 := Nat.div_eq_of_lt (by simpa using hz)
      omega
  · obtain ⟨v, hv⟩ := h.some_ o ho
    by_cases e : o = q
    · subst e; exact ⟨_, World.cell?_setCell_same _ _ _ hv⟩
    · exact ⟨v, by rw [other (by omega)]; exact hv⟩

theorem Laid.last {b z q k : Nat} {w : World} (h : Laid b z (q + 1) k w) (h0 : z / 10 ^ (k + 1) = 0) : nd z = k + 1 := by
  have h4 := h.small
  have hm := h.more
  have hlt : z < 10 ^ (k + 1) := by
    rcases Nat.lt_or_ge z (10 ^ (k + 1)) with h | h
    · exact h
    · have := Nat.div_pos h (Nat.pow_pos (by omega)); omega
  have hge : k = 0 ∨ 10 ^ k ≤ z := by
    rcases hm with h | h
    · exact .inl h
    · exact .inr (by
        rcases Nat.lt_or_ge z (10 ^ k) with h' | h'
        · rw [Nat.div_eq_of_lt h'] at h; omega
        · exact h')
  have : k = 0 ∨ k = 1 ∨ k = 2 ∨ k = 3 ∨ k = 4 := by omega
  unfold nd
  rcases this with rfl | rfl | rfl | rfl | rfl <;> simp at hlt hge <;> (repeat' split) <;> omega

theorem under56 : Try.prog.underlying 56 = some (.array 24 5) := by kernel_rfl
theorem info5 : (Try.prog.info? 5).map (·.size) = some 1 := by kernel_rfl

theorem slice56 (b q : Nat) (hq : q < 24) (W : World) : (Instr.sliceAt 56 (.pointer (some ⟨b, 0, none⟩)) (some (.int .i64 (q : Int))) none none).run Try.prog W = .ok (.slice (some ⟨b, q, none⟩) (24 - q) (24 - q)) W := by
  have hal : Try.prog.arrayLen 56 = 24 := by kernel_rfl
  have hel : Try.prog.elem 56 = 5 := by kernel_rfl
  have ht : Try.prog.underlying 56 = some (.array (Try.prog.arrayLen 56) (Try.prog.elem 56)) := by rw [hal, hel]; exact under56
  rw [run_sliceAt_array_l W 56 _ ht .i64 q (by omega) (by rw [hal]; omega)]
  obtain ⟨i, hi, hs⟩ := Option.map_eq_some_iff.1 info5
  have hne : ¬ 24 = q := by omega
  simp [sizeOf, typeInfo, hal, hel, hi, hs, slicedAt, hne, Go.WideShapes.add_plain]

set_option maxRecDepth 100000 in
set_option maxHeartbeats 3200000 in
theorem itoa (z : Nat) (w : World) (hz : z < 100000) : Calls Try.prog 14 #[.int .i64 z] w fun e w' => e = .returned (.string (text z)) ∧ Below w.heap.size w w' := by
  go_enter Try.func14, Try.ntmps14
  go_wp2
  go_loopw [4, 6] (fun uv qv wr => ∃ q k u : Nat, uv = .int .u64 u ∧ qv = .int .i64 q ∧ Hid (u = z / 10 ^ k) ∧ u ≤ z ∧ Laid w.heap.size z q k wr ∧ Below w.heap.size w wr) (fun _ qv _ => (intOf qv).toNat)
  case atStart =>
    refine ⟨24, 0, z, rfl, rfl, ?_, Nat.le_refl _, ⟨rfl, by omega, .inl rfl, fun o => ?_, fun o ho => ?_, fun i hi => by omega, trivial⟩, (Below.refl _ _).alloc (Nat.le_refl _) _⟩
    · show z = z / 10 ^ 0
      simp
    · simp [go_sem]
    · rw [World.cell?_alloc_at _ _ _ _ rfl]
      exact ⟨_, Array.getElem?_eq_getElem ho⟩
  case round =>
    obtain ⟨q, k, u, rfl, rfl, hu, huz, hL, hb⟩ := hrel
    have hsum := hL.sum
    have hsm := hL.small
    obtain ⟨q', rfl⟩ : ∃ q', q = q' + 1 := ⟨q - 1, by omega⟩
    have hf := hL.free
    obtain ⟨v0, hv0⟩ := hL.some_ q' (by omega)
    have d0 : 0 ≤ (u : Int) % 10 := Int.emod_nonneg _ (by omega)
    have d1 : (u : Int) % 10 ≤ 9 := by have := Int.emod_lt_of_pos (u : Int) (show (0 : Int) < 10 by omega); omega
    have hq1 : ((q' + 1 : Nat) : Int) - 1 = (q' : Int) := by omega
    by_cases h10 : u / 10 = 0
    · have he : ((u : Int) / 10 == 0) = true := by
        have : (u : Int) / 10 = 0 := by omega
        rw [this]; rfl
      have hdd : z / 10 ^ (k + 1) = 0 := by rw [Nat.pow_succ, ← Nat.div_div_eq_div_mul, ← hu.out]; exact h10
      have hnd := hL.last hdd
      have hc := hL.cells
      rw [← hu.out] at hc
      have hcv := run_convert_bytes_arg (P := Try.prog) (wr.setCell ⟨w.heap.size, q', none⟩ (.int .u8 (48 + (u : Int) % 10))) 57 5 Try.underlying57 Try.underlying5 w.heap.size q' (k + 1) (k + 1) (dl z (k + 1)) (dl_length z _) hc 9 Try.underlying9
      have hsl := slice56 w.heap.size q' (by omega) (wr.setCell ⟨w.heap.size, q', none⟩ (.int .u8 (48 + (u : Int) % 10)))
      rw [show 24 - q' = k + 1 by omega] at hsl
      have HT : Hid (strOfNums (dl z (k + 1)) = text z) := by show _ = _; unfold text; rw [hnd]
      clear hdd hnd hc
      go_wp2
      go_ret
      exact ⟨congrArg (fun x => Ending.returned (Value.string x)) HT.out, hb.setCell (Nat.le_refl _) _⟩
    · have he : ((u : Int) / 10 == 0) = false := beq_eq_false_iff_ne.2 (by omega)
      have hdd : u / 10 = z / 10 ^ (k + 1) := by rw [Nat.pow_succ, ← Nat.div_div_eq_div_mul, ← hu.out]
      have hN := hL.next hz (by rw [← hdd]; omega)
      rw [← hu.out] at hN
      have HN : Hid (Laid w.heap.size z q' (k + 1) (wr.setCell ⟨w.heap.size, q', none⟩ (.int .u8 (48 + (u : Int) % 10)))) := hN
      have HD : Hid (u / 10 = z / 10 ^ (k + 1)) := hdd
      clear hN hdd
      go_wp2
      go_roundw
      case rel => exact ⟨q', k + 1, u / 10, rfl, rfl, HD, by omega, HN.out, hb.setCell (Nat.le_refl _) _⟩
      case measure => simp [intOf]
end Itoa
end Go.Proofs.Qxb6001722a

/-
  zzDigitOf, zzNumberValue: by their contracts. A string's bytes as numbers.
-/
import Derived.Test.Qxb6000730aAgree
import Derived.Laws.BytesArg
namespace Go.Proofs.Qxb6000730a
open Go.ChangeShapes Go.WideShapes Go.ChangeAt Go.RowKit
namespace Num
open Ref (hx cap)
set_option linter.unusedVariables false

/-- A string's bytes. -/
def lst (s : ByteArray) : List Int := s.data.toList.map fun b => (b.toNat : Int)

theorem lst_length (s : ByteArray) : (lst s).length = s.size := by unfold lst; rw [List.length_map, Array.length_toList]; rfl
theorem lst_get (s : ByteArray) (k : Nat) (h : k < s.size) : (lst s)[k]'(by rw [lst_length]; exact h) = (s[k].toNat : Int) := by
  simp only [lst, List.getElem_map]; rfl
theorem lst_rng (s : ByteArray) : ∀ c ∈ lst s, 0 ≤ c ∧ c ≤ 255 := by
  intro c hc
  simp only [lst, List.mem_map] at hc
  obtain ⟨b, _, rfl⟩ := hc
  have := b.toNat_lt
  omega
theorem lst_inj {s t : ByteArray} (h : lst s = lst t) : s = t := by
  have h2 : s.data.toList = t.data.toList := by
    unfold lst at h
    refine List.map_inj_right (f := fun b : UInt8 => (b.toNat : Int)) (fun x y e => ?_) |>.1 h
    have : x.toNat = y.toNat := Int.ofNat.inj e
    exact UInt8.toNat_inj.1 this
  cases s; cases t
  simp only [ByteArray.mk.injEq]
  exact Array.toList_inj.1 h2
theorem lst_extract (s : ByteArray) (a b : Nat) : lst (s.extract a b) = ((lst s).drop a).take (b - a) := by
  unfold lst
  rw [ByteArray.data_extract, Array.toList_extract, List.extract_eq_take_drop, List.map_take, List.map_drop]

theorem digit10_yes (c : Int) (w : World) (h0 : 48 ≤ c) (h1 : c ≤ 57) : Calls Try.prog 35 #[.int .u8 c, .int .i64 10] w fun e w' => e = .returned (.int .i64 (c - 48)) ∧ w = w' := by
  go_enter Try.func35, Try.ntmps35
  go_wp2
  go_ret
  exact ⟨rfl, rfl⟩
theorem digit10_no (c : Int) (w : World) (h0 : 0 ≤ c) (h1 : c ≤ 255) (h : ¬ (48 ≤ c ∧ c ≤ 57)) : Calls Try.prog 35 #[.int .u8 c, .int .i64 10] w fun e w' => e = .returned (.int .i64 (-1)) ∧ w = w' := by
  by_cases a : c < 48
  · go_enter Try.func35, Try.ntmps35
    go_wp2
    go_ret
    exact ⟨rfl, rfl⟩
  · have d1 : decide (c ≤ 57) = false := decide_eq_false (by omega)
    clear h
    go_enter Try.func35, Try.ntmps35
    go_wp2
    go_ret
    exact ⟨rfl, rfl⟩
theorem ret_one {k : IntKind} {a b : Int} (h : a = b) : Ending.returned (.int k a) = .returned (.int k b) := by rw [h]
theorem digit16_yes (c : Int) (w : World) (h0 : 0 ≤ c) (h1 : c ≤ 255) (h : 0 ≤ hx c) : Calls Try.prog 35 #[.int .u8 c, .int .i64 16] w fun e w' => e = .returned (.int .i64 (hx c)) ∧ w = w' := by
  have h' : (48 ≤ c ∧ c ≤ 57) ∨ (97 ≤ c ∧ c ≤ 102) ∨ (65 ≤ c ∧ c ≤ 70) := by
    unfold hx at h
    split at h; omega; split at h; omega; split at h <;> omega
  clear h
  rcases h' with ⟨a, b⟩ | ⟨a, b⟩ | ⟨a, b⟩
  · have e : c - 48 = hx c := by unfold hx; rw [if_pos ⟨a, b⟩]
    have E : Hid (c - 48 = hx c) := e
    clear e
    go_enter Try.func35, Try.ntmps35
    go_wp2
    go_ret
    exact ⟨ret_one E.out, rfl⟩
  · have e : c - 97 + 10 = hx c := by unfold hx; rw [if_neg (by omega), if_pos ⟨a, b⟩]; omega
    have E : Hid (c - 97 + 10 = hx c) := e
    have d1 : decide (c ≤ 57) = false := decide_eq_false (by omega)
    clear e
    go_enter Try.func35, Try.ntmps35
    go_wp2
    go_ret
    exact ⟨ret_one E.out, rfl⟩
  · have e : c - 65 + 10 = hx c := by unfold hx; rw [if_neg (by omega), if_neg (by omega), if_pos ⟨a, b⟩]; omega
    have E : Hid (c - 65 + 10 = hx c) := e
    have d1 : decide (c ≤ 57) = false := decide_eq_false (by omega)
    clear e
    go_enter Try.func35, Try.ntmps35
    go_wp2
    go_ret
    exact ⟨ret_one E.out, rfl⟩
theorem digit16_no (c : Int) (w : World) (h0 : 0 ≤ c) (h1 : c ≤ 255) (h : hx c < 0) : Calls Try.prog 35 #[.int .u8 c, .int .i64 16] w fun e w' => e = .returned (.int .i64 (-1)) ∧ w = w' := by
  have h' : ¬ (48 ≤ c ∧ c ≤ 57) ∧ ¬ (97 ≤ c ∧ c ≤ 102) ∧ ¬ (65 ≤ c ∧ c ≤ 70) := by
    unfold hx at h
    split at h; omega; split at h; omega; split at h <;> omega
  clear h
  by_cases a : c < 48
  · clear h'
    go_enter Try.func35, Try.ntmps35
    go_wp2
    go_ret
    exact ⟨rfl, rfl⟩
  have d1 : decide (c ≤ 57) = false := decide_eq_false (by omega)
  by_cases a2 : c < 65
  · clear h'
    go_enter Try.func35, Try.ntmps35
    go_wp2
    go_ret
    exact ⟨rfl, rfl⟩
  have d2 : decide (c ≤ 70) = false := decide_eq_false (by omega)
  by_cases a3 : c < 97
  · clear h'
    go_enter Try.func35, Try.ntmps35
    go_wp2
    go_ret
    exact ⟨rfl, rfl⟩
  have d3 : decide (c ≤ 102) = false := decide_eq_false (by omega)
  clear h'
  go_enter Try.func35, Try.ntmps35
  go_wp2
  go_ret
  exact ⟨rfl, rfl⟩

/-! ### The value of a run of digits -/
theorem read_append (bs v : Nat) (a b : List Int) : Dig.read bs v (a ++ b) = Dig.read bs (Dig.read bs v a) b := by simp [Dig.read, List.foldl_append]
theorem read_snoc (bs v : Nat) (a : List Int) (c : Int) : Dig.read bs v (a ++ [c]) = Dig.read bs v a * bs + (hx c).toNat := by simp [Dig.read, List.foldl_append]
theorem read_ge (bs : Nat) (ds : List Int) : ∀ v, v * bs ^ ds.length ≤ Dig.read bs v ds := by
  induction ds with
  | nil => intro v; simp [Dig.read]
  | cons d ds ih =>
    intro v
    have h := ih (v * bs + (hx d).toNat)
    have e : Dig.read bs v (d :: ds) = Dig.read bs (v * bs + (hx d).toNat) ds := rfl
    rw [e]
    refine Nat.le_trans ?_ h
    rw [List.length_cons, Nat.pow_succ, Nat.mul_comm (bs ^ ds.length) bs, ← Nat.mul_assoc]
    exact Nat.mul_le_mul_right _ (by omega)
theorem read_lt (bs : Nat) (ds : List Int) (hr : ∀ c ∈ ds, 0 ≤ hx c ∧ hx c < bs) : ∀ v, Dig.read bs v ds < (v + 1) * bs ^ ds.length := by
  induction ds with
  | nil => intro v; simp [Dig.read]
  | cons d ds ih =>
    intro v
    have h := ih (fun c hc => hr c (by simp [hc])) (v * bs + (hx d).toNat)
    have e : Dig.read bs v (d :: ds) = Dig.read bs (v * bs + (hx d).toNat) ds := rfl
    rw [e]
    refine Nat.lt_of_lt_of_le h ?_
    have hd := hr d (by simp)
    rw [List.length_cons, Nat.pow_succ, Nat.mul_comm (bs ^ ds.length) bs, ← Nat.mul_assoc]
    refine Nat.mul_le_mul_right _ ?_
    rw [Nat.add_mul]
    omega

/-- The first k are zeros. -/
def Zs (L : List Int) (k : Nat) : Prop := L.take k = List.replicate k 48
theorem Zs.zero (L : List Int) : Zs L 0 := rfl
theorem Zs.succ {L : List Int} {k : Nat} (h : Zs L k) (hk : k < L.length) (hc : L[k] = 48) : Zs L (k + 1) := by
  unfold Zs at h ⊢
  rw [List.take_succ_eq_append_getElem hk, h, hc, List.replicate_succ']
theorem Zs.read {L : List Int} {k : Nat} (h : Zs L k) (bs : Nat) (j : Nat) (hj : k ≤ j) : Dig.read bs 0 (L.take j) = Dig.read bs 0 ((L.drop k).take (j - k)) := by
  have e : L.take j = L.take k ++ (L.drop k).take (j - k) := by
    conv => lhs; rw [← List.take_append_drop k L]
    rw [List.take_append, List.take_take, Nat.min_eq_right hj]
    congr 1
    by_cases hl : k ≤ L.length
    · rw [List.length_take, Nat.min_eq_left hl]
    · rw [List.drop_of_length_le (by omega)]; simp
  unfold Zs at h
  rw [e, h, Agree.read_zeros]

/-- Too many digits behind the zeros: past the cap. -/
theorem many {L : List Int} {k : Nat} (bs most : Nat) (h : Zs L k) (hk : k < L.length) (hc : L[k] ≠ 48) (hr : ∀ c ∈ L, 0 ≤ c ∧ 0 ≤ hx c ∧ hx c < bs) (hm : most < L.length - k) (hb : 1114112 < bs ^ most) (hbs : 2 ≤ bs) : cap (Dig.read bs 0 L : Nat) = 1114112 := by
  have e := h.read bs L.length (by omega)
  rw [List.take_length, List.take_of_length_le (by simp)] at e
  rw [e, List.drop_eq_getElem_cons hk]
  have hd := hr L[k] (List.getElem_mem hk)
  have hpos : 1 ≤ (hx L[k]).toNat := by
    have hz : hx L[k] ≠ 0 := by
      intro hz
      unfold hx at hz
      split at hz; omega; split at hz; omega; split at hz <;> omega
    omega
  have e2 : Dig.read bs 0 (L[k] :: L.drop (k + 1)) = Dig.read bs (hx L[k]).toNat (L.drop (k + 1)) := by show Dig.read bs (0 * bs + (hx L[k]).toNat) _ = _; rw [Nat.zero_mul, Nat.zero_add]
  rw [e2]
  have h1 := read_ge bs (L.drop (k + 1)) (hx L[k]).toNat
  have h2 : bs ^ most ≤ bs ^ (L.drop (k + 1)).length := Nat.pow_le_pow_right (by omega) (by simp; omega)
  have h3 : bs ^ (L.drop (k + 1)).length ≤ (hx L[k]).toNat * bs ^ (L.drop (k + 1)).length := Nat.le_mul_of_pos_left _ hpos
  unfold cap
  rw [if_neg (by omega)]

theorem few {L : List Int} {k : Nat} (bs : Nat) (h : Zs L k) (hr : ∀ c ∈ L, 0 ≤ c ∧ 0 ≤ hx c ∧ hx c < bs) (j : Nat) (hj : k ≤ j) (most : Nat) (hm : j - k ≤ most) (hbs : 1 ≤ bs) : Dig.read bs 0 (L.take j) < bs ^ most := by
  rw [h.read bs j hj]
  have h1 := read_lt bs ((L.drop k).take (j - k)) (fun c hc => (hr c (List.mem_of_mem_drop (List.mem_of_mem_take hc))).2) 0
  refine Nat.lt_of_lt_of_le h1 ?_
  rw [Nat.zero_add, Nat.one_mul]
  exact Nat.pow_le_pow_right hbs (by simp; omega)

end Num
end Go.Proofs.Qxb6000730a

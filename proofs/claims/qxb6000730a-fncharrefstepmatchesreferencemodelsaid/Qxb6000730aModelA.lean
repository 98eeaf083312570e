/-
  zzRefModel, its plain ends and the name.
-/
import Derived.Test.Qxb6000730aRun
import Derived.Test.Qxb6000730aNumVal
namespace Go.Proofs.Qxb6000730a
open Go.ChangeShapes Go.WideShapes Go.ChangeAt Go.RowKit
namespace Model
open Ref (hx nm cap r0 R)
open Num (lst)
open Run (names)
set_option linter.unusedVariables false

theorem results_tmp4 {fn : Func} {a b c d : Tmp} (h : fn.results = #[.tmp a, .tmp b, .tmp c, .tmp d]) (tmps : Array Value) (P : Program) (w : World) :
    (results fn tmps).run P w = .ok (.tuple #[tmps.getD a undef, tmps.getD b undef, tmps.getD c undef, tmps.getD d undef]) w := by
  simp [results, h]

/-- What zzRefModel answers where the reader comes to (e, tk, r). -/
def Says (s : ByteArray) (w : World) (e : Int) (tk : Bool) (r : R) : Prop :=
  Calls Try.prog 14 #[.string s] w fun x w' => ∃ t, x = .returned (.tuple #[.int .i64 e, .bool tk, .int .i64 r.value, .string t]) ∧ lst t = names r ∧ Below w.heap.size w w'

theorem lst_cons (s : ByteArray) (h : 0 < s.size) : lst s = (s[0].toNat : Int) :: (lst s).drop 1 := by
  have hl : 0 < (lst s).length := by rw [Num.lst_length]; exact h
  have e := List.drop_eq_getElem_cons hl
  rw [List.drop_zero, Num.lst_get s 0 h] at e
  exact e
theorem drop_get (s : ByteArray) (k : Nat) (h : k < s.size) : (lst s).drop k = (s[k].toNat : Int) :: (lst s).drop (k + 1) := by
  have hl : k < (lst s).length := by rw [Num.lst_length]; exact h
  have e := List.drop_eq_getElem_cons hl
  rw [Num.lst_get s k h] at e
  exact e
theorem take_get (s : ByteArray) (k : Nat) (h : k < s.size) : (lst s).take (k + 1) = (lst s).take k ++ [(s[k].toNat : Int)] := by
  have hl : k < (lst s).length := by rw [Num.lst_length]; exact h
  rw [List.take_succ_eq_append_getElem hl, Num.lst_get s k h]
theorem lst_empty : lst { data := #[] } = [] := rfl

theorem empty (s : ByteArray) (w : World) (h : s.size = 0) (e : Int) (tk : Bool) (r : R) (hF : Run.run r0 0 (lst s) = (e, tk, r)) : Says s w e tk r := by
  have hl : lst s = [] := List.eq_nil_of_length_eq_zero (by rw [Num.lst_length]; exact h)
  rw [hl, Run.run] at hF
  simp only [Prod.mk.injEq] at hF
  obtain ⟨rfl, rfl, rfl⟩ := hF
  have hb : ((s.size : Int) == 0) = true := by rw [h]; rfl
  clear h hl
  unfold Says
  go_enter Try.func14, Try.ntmps14
  go_wp2
  refine bodyPost_ret (results_tmp4 rfl _ _ _) rfl ?_
  exact ⟨_, rfl, rfl, Below.refl _ _⟩

theorem none (s : ByteArray) (w : World) (hm : s.size ≤ 65536) (h : 0 < s.size) (h35 : (s[0].toNat : Int) ≠ 35) (hn : nm (s[0].toNat : Int) = false) (e : Int) (tk : Bool) (r : R) (hF : Run.run r0 0 (lst s) = (e, tk, r)) : Says s w e tk r := by
  rw [lst_cons s h, Run.c_none _ _ h35 hn] at hF
  simp only [Prod.mk.injEq] at hF
  obtain ⟨rfl, rfl, rfl⟩ := hF
  have hb : ((s.size : Int) == 0) = false := beq_eq_false_iff_ne.2 (by omega)
  have hb2 : ((s[0].toNat : Int) != 35) = true := by simpa using h35
  clear h35
  unfold Says
  go_enter Try.func14, Try.ntmps14
  go_wp2_with (go_at_call 34; refine (Ref.zzName_no _ _ hn).mono ?_; rintro e w' ⟨rfl, rfl⟩)
  refine bodyPost_ret (results_tmp4 rfl _ _ _) rfl ?_
  exact ⟨_, rfl, rfl, Below.refl _ _⟩

/-- The first k bytes may stand in a name. -/
def NmTo (L : List Int) (k : Nat) : Prop := ∀ c ∈ L.take k, nm c = true

/-- The reader at a name of k bytes that stops ahead of the end. -/
theorem at_stop (s : ByteArray) (k : Nat) (hk1 : 1 ≤ k) (hlt : k < s.size) (hk32 : k ≤ 32) (hnm : NmTo (lst s) k) (hst : nm (s[k].toNat : Int) = false ∨ k = 32) (e : Int) (tk : Bool) (r : R) (hF : Run.run r0 0 (lst s) = (e, tk, r)) :
    e = k ∧ tk = ((s[k].toNat : Int) == 59) ∧ r.value = 0 ∧ names r = lst (s.extract 0 k) := by
  have hl : ((lst s).take k).length = k := by rw [List.length_take, Num.lst_length]; omega
  obtain ⟨r', h1, h2, h3⟩ := Run.c_name_stop ((lst s).take k) ((lst s).drop (k + 1)) (s[k].toNat : Int) (by intro e; rw [e] at hl; simp at hl; omega) hnm (by omega) (by rw [hl]; exact hst)
  rw [← drop_get s k hlt, List.take_append_drop, hF] at h3
  simp only [Prod.mk.injEq] at h3
  obtain ⟨rfl, rfl, rfl⟩ := h3
  refine ⟨by rw [hl], rfl, h1, ?_⟩
  rw [h2, Num.lst_extract]
  simp
theorem at_end (s : ByteArray) (hk1 : 1 ≤ s.size) (hk32 : s.size ≤ 32) (hnm : NmTo (lst s) s.size) (e : Int) (tk : Bool) (r : R) (hF : Run.run r0 0 (lst s) = (e, tk, r)) :
    e = -1 ∧ tk = false ∧ r.value = 0 ∧ names r = lst s := by
  have hl := Num.lst_length s
  obtain ⟨r', h1, h2, h3⟩ := Run.c_name_all (lst s) (by intro e; rw [e] at hl; simp at hl; omega) (by intro c hc; exact hnm c (by rw [List.take_of_length_le (by omega)]; exact hc)) (by omega)
  rw [hF] at h3
  simp only [Prod.mk.injEq] at h3
  obtain ⟨rfl, rfl, rfl⟩ := h3
  exact ⟨rfl, rfl, h1, h2⟩

set_option maxRecDepth 100000 in
set_option maxHeartbeats 1600000 in
theorem name (s : ByteArray) (w : World) (hm : s.size ≤ 65536) (h : 0 < s.size) (h35 : (s[0].toNat : Int) ≠ 35) (hn : nm (s[0].toNat : Int) = true) (e : Int) (tk : Bool) (r : R) (hF : Run.run r0 0 (lst s) = (e, tk, r)) : Says s w e tk r := by
  have HF : Hid (Run.run r0 0 (lst s) = (e, tk, r)) := hF
  clear hF
  have hb : ((s.size : Int) == 0) = false := beq_eq_false_iff_ne.2 (by omega)
  have hb2 : ((s[0].toNat : Int) != 35) = true := by simpa using h35
  clear h35
  have h1 : NmTo (lst s) 1 := by
    intro c hc
    rw [lst_cons s h] at hc
    simp at hc
    rw [hc]; exact hn
  unfold Says
  go_enter Try.func14, Try.ntmps14
  go_wp2_with (go_at_call 34; refine (Ref.zzName_yes _ _ hn).mono ?_; rintro e w' ⟨rfl, rfl⟩)
  go_loop [7] (fun j => ∃ k : Nat, 1 ≤ k ∧ k ≤ s.size ∧ k ≤ 32 ∧ j = .int .i64 k ∧ NmTo (lst s) k) (fun j => s.size - (intOf j).toNat)
  case atStart => exact ⟨1, Nat.le_refl _, h, by omega, rfl, h1⟩
  case round =>
    clear h1
    obtain ⟨k, hk1, hk, hk32, rfl, hnm⟩ := hrel
    by_cases hlt : k < s.size
    · by_cases h32 : k < 32
      · cases hnk : nm (s[k].toNat : Int) with
        | true =>
          have hnext : NmTo (lst s) (k + 1) := by
            intro c hc
            rw [take_get s k hlt] at hc
            rcases List.mem_append.1 hc with hc | hc
            · exact hnm c hc
            · simp at hc; rw [hc]; exact hnk
          go_wp2_with (go_at_call 34; refine (Ref.zzName_yes _ _ hnk).mono ?_; rintro e w' ⟨rfl, rfl⟩)
          go_round
          case rel => exact ⟨k + 1, by omega, by omega, by omega, by go_num, hnext⟩
          case measure => simp [intOf]; omega
        | false =>
          obtain ⟨rfl, rfl, hv, hnames⟩ := at_stop s k hk1 hlt hk32 hnm (Or.inl hnk) e tk r HF.out
          have HV : Hid (r.value = 0) := hv
          have HNM : Hid (names r = lst (s.extract 0 k)) := hnames
          clear HF hv hnames
          have hkn : ((k : Int) == (s.size : Int)) = false := beq_eq_false_iff_ne.2 (by omega)
          have hki : (k : Int) < (s.size : Int) := by omega
          go_wp2_with (go_at_call 34; refine (Ref.zzName_no _ _ hnk).mono ?_; rintro e w' ⟨rfl, rfl⟩)
          go_region
          all_goals (try go_wp2)
          all_goals
            refine bodyPost_ret (results_tmp4 rfl _ _ _) rfl ?_
            exact ⟨_, by rw [HV.out]; rfl, HNM.out.symm, (Below.refl _ _).drew⟩
      · skip
        obtain ⟨rfl, rfl, hv, hnames⟩ := at_stop s k hk1 hlt hk32 hnm (Or.inr (by omega)) e tk r HF.out
        have HV : Hid (r.value = 0) := hv
        have HNM : Hid (names r = lst (s.extract 0 k)) := hnames
        clear HF hv hnames
        have hkn : ((k : Int) == (s.size : Int)) = false := beq_eq_false_iff_ne.2 (by omega)
        have hki : (k : Int) < (s.size : Int) := by omega
        go_wp2
        go_region
        all_goals (try go_wp2)
        all_goals
          refine bodyPost_ret (results_tmp4 rfl _ _ _) rfl ?_
          exact ⟨_, by rw [HV.out]; rfl, HNM.out.symm, (Below.refl _ _).drew⟩
    · have hkn : k = s.size := by omega
      subst hkn
      obtain ⟨rfl, rfl, hv, hnames⟩ := at_end s hk1 hk32 hnm e tk r HF.out
      have HV : Hid (r.value = 0) := hv
      have HNM : Hid (names r = lst s) := hnames
      clear HF hv hnames
      go_wp2
      refine bodyPost_ret (results_tmp4 rfl _ _ _) rfl ?_
      exact ⟨_, by rw [HV.out]; rfl, HNM.out.symm, Below.refl _ _⟩

end Model
end Go.Proofs.Qxb6000730a

/-
  FnTagStepQuotedValueHidesGT: the walk.
-/
import Derived.Test.Qxb6000730aUnq
namespace Go.Proofs.Qxb6000730a
open Go.ChangeShapes Go.WideShapes Go.ChangeAt Go.RowKit
namespace Hide
open Go.Proofs.Qxb6000730a.Open
open Num (lst)
open Bytes
open Tag (M Box m0)
set_option linter.unusedVariables false

theorem exB (p : Prop) : ∃ b : Bool, (b = true ↔ p) := by
  by_cases h : p
  · exact ⟨true, by simp [h]⟩
  · exact ⟨false, by simp [h]⟩

theorem bytes_yes (a b c : ByteArray) (l s : Bool) (w : World) (h : a.size + b.size + c.size ≤ 1048576) : Calls Try.prog 24 #[.string a, .string b, .string c, .bool l, .bool s] w fun e w' => e = .returned (.bool true) ∧ w = w' := by
  go_enter Try.func24, Try.ntmps24
  go_wp2
  go_ret
  exact ⟨rfl, rfl⟩
theorem bytes_no (a b c : ByteArray) (l s : Bool) (w : World) (ha : a.size ≤ maxLen) (hb : b.size ≤ maxLen) (hc : c.size ≤ maxLen) (h : 1048576 < a.size + b.size + c.size) : Calls Try.prog 24 #[.string a, .string b, .string c, .bool l, .bool s] w fun e w' => e = .returned (.bool false) ∧ w = w' := by
  unfold maxLen at ha hb hc
  by_cases h1 : 1048576 < a.size
  · go_enter Try.func24, Try.ntmps24
    go_wp2
    go_ret
    exact ⟨rfl, rfl⟩
  by_cases h2 : 1048576 < b.size
  · go_enter Try.func24, Try.ntmps24
    go_wp2
    go_ret
    exact ⟨rfl, rfl⟩
  by_cases h3 : 1048576 < a.size + b.size
  · go_enter Try.func24, Try.ntmps24
    go_wp2
    go_ret
    exact ⟨rfl, rfl⟩
  by_cases h4 : 1048576 < c.size
  · go_enter Try.func24, Try.ntmps24
    go_wp2
    go_ret
    exact ⟨rfl, rfl⟩
  go_enter Try.func24, Try.ntmps24
  go_wp2
  go_ret
  exact ⟨rfl, rfl⟩

theorem toolong (a b c : ByteArray) (l s : Bool) (w : World) (ha : a.size ≤ maxLen) (hb : b.size ≤ maxLen) (hc : c.size ≤ maxLen) (h : 1048576 < a.size + b.size + c.size) : Calls Try.prog 8 #[.string a, .string b, .string c, .bool l, .bool s] w fun e w' => e = .returned (.bool true) ∧ Below w.heap.size w w' := by
  go_enter Try.func8, Try.ntmps8
  go_wp2_with (go_at_call 24; refine (bytes_no _ _ _ _ _ _ ha hb hc h).mono ?_; rintro e w' ⟨rfl, rfl⟩)
  go_ret
  exact ⟨rfl, Below.refl _ _⟩
theorem long1 (a b c : ByteArray) (l s : Bool) (w : World) (h : a.size + b.size + c.size ≤ 1048576) (h2 : 65536 < a.size) : Calls Try.prog 8 #[.string a, .string b, .string c, .bool l, .bool s] w fun e w' => e = .returned (.bool true) ∧ Below w.heap.size w w' := by
  have d1 : decide ((65536 : Int) < (a.size : Int)) = true := decide_eq_true (by omega)
  go_enter Try.func8, Try.ntmps8
  go_wp2_with (go_at_call 24; refine (bytes_yes _ _ _ _ _ _ h).mono ?_; rintro e w' ⟨rfl, rfl⟩)
  go_ret
  exact ⟨rfl, Below.refl _ _⟩
theorem long2 (a b c : ByteArray) (l s : Bool) (w : World) (h : a.size + b.size + c.size ≤ 1048576) (h1 : a.size ≤ 65536) (h2 : 65536 < b.size) : Calls Try.prog 8 #[.string a, .string b, .string c, .bool l, .bool s] w fun e w' => e = .returned (.bool true) ∧ Below w.heap.size w w' := by
  have d1 : decide ((65536 : Int) < (a.size : Int)) = false := decide_eq_false (by omega)
  have d2 : decide ((65536 : Int) < (b.size : Int)) = true := decide_eq_true (by omega)
  go_enter Try.func8, Try.ntmps8
  go_wp2_with (go_at_call 24; refine (bytes_yes _ _ _ _ _ _ h).mono ?_; rintro e w' ⟨rfl, rfl⟩)
  go_ret
  exact ⟨rfl, Below.refl _ _⟩
theorem long3 (a b c : ByteArray) (l s : Bool) (w : World) (h : a.size + b.size + c.size ≤ 1048576) (h1 : a.size ≤ 65536) (h2 : b.size ≤ 65536) (h3 : 65536 < c.size) : Calls Try.prog 8 #[.string a, .string b, .string c, .bool l, .bool s] w fun e w' => e = .returned (.bool true) ∧ Below w.heap.size w w' := by
  have d1 : decide ((65536 : Int) < (a.size : Int)) = false := decide_eq_false (by omega)
  have d2 : decide ((65536 : Int) < (b.size : Int)) = false := decide_eq_false (by omega)
  have d3 : decide ((65536 : Int) < (c.size : Int)) = true := decide_eq_true (by omega)
  go_enter Try.func8, Try.ntmps8
  go_wp2_with (go_at_call 24; refine (bytes_yes _ _ _ _ _ _ h).mono ?_; rintro e w' ⟨rfl, rfl⟩)
  go_ret
  exact ⟨rfl, Below.refl _ _⟩

/-- The reader inside 'name key=q val q', with '>' behind it. -/
def Mid (long : Bool) (L : List Int) (k : Nat) (m : M) : Prop := (k ≤ L.length ∧ ∃ mE, mE.tag = 1 ∧ Runs long k m (L.drop k) mE) ∨ (k = L.length + 1 ∧ m.tag = 1)

theorem mid_on {long : Bool} {L : List Int} {k : Nat} {m : M} (h : Mid long L k m) (hk : k < L.length) : (Tag.step m L[k] ((k : Int) + 1) long).2 = 0 ∧ Mid long L (k + 1) (Tag.step m L[k] ((k : Int) + 1) long).1 := by
  rcases h with ⟨_, mE, h1, h2⟩ | ⟨h1, _⟩
  · rw [List.drop_eq_getElem_cons hk] at h2
    exact ⟨h2.1, Or.inl ⟨by omega, mE, h1, h2.2⟩⟩
  · omega
theorem mid_gt {long : Bool} {L : List Int} {k : Nat} {m : M} (h : Mid long L k m) (hk : k = L.length) : Tag.step m 62 ((k : Int) + 1) long = (m, 1) ∧ m.tag = 1 := by
  rcases h with ⟨_, mE, h1, h2⟩ | ⟨h1, _⟩
  · rw [List.drop_of_length_le (by omega)] at h2
    simp only [Runs] at h2
    subst h2
    exact ⟨by simp [Tag.step, h1], h1⟩
  · omega

theorem start (long : Bool) (name key val : List Int) (q : Int) (hn : ∀ c ∈ name, nameB c) (hk : ∀ c ∈ key, keyB c) (hne : key ≠ []) (hq : q = 39 ∨ q = 34) (hv : ∀ c ∈ val, c ≠ q) :
    Mid long (text name key false 1 false q val ++ [q]) 0 m0 := by
  obtain ⟨m', h1, h2⟩ := open_run long name key false 1 false q val hn hk hne (by omega) hq hv
  refine Or.inl ⟨Nat.zero_le _, { m' with tag := 1, reread := false }, rfl, ?_⟩
  rw [List.drop_zero]
  refine Runs.append _ _ h1 (Runs.one ?_)
  simp [Tag.step, h2.tag, h2.quote]

structure Set (l : Bool) (L : List Int) (n g : Nat) (w : World) : Prop where
  len : L.length = n
  small : n ≤ 300000
  cells : ∀ j (hj : j < L.length), w.cell? ⟨g, j, none⟩ = some (.int .u8 L[j])
  gt : w.cell? ⟨g, n, none⟩ = some (.int .u8 62)
  rng : ∀ c ∈ L, 0 ≤ c ∧ c ≤ 255
  mid : Mid l L 0 m0
theorem pack2 {B : Nat} {v : Value} {T : List Int} {q : Int} {l : Bool} {w : World} (h : Own B v (T ++ [q] ++ [62]) w) (hm : Mid l (T ++ [q]) 0 m0) (hr : ∀ x ∈ T ++ [q], 0 ≤ x ∧ x ≤ 255) (hl : T.length ≤ 200000) :
    ∃ (L : List Int) (n g c : Nat), v = .slice (some ⟨g, 0, none⟩) (n + 1) c ∧ g < w.heap.size ∧ Set l L n g w := by
  obtain ⟨g, c, hv, _, hg, hcell⟩ := h.spot (by simp)
  refine ⟨T ++ [q], (T ++ [q]).length, g, c, by rw [hv]; simp, hg, ⟨rfl, by simp; omega, fun j hj => ?_, ?_, hr, hm⟩⟩
  · have hj2 : j < (T ++ [q] ++ [62]).length := by rw [List.length_append]; omega
    have := hcell j hj2
    rw [List.getElem_append_left hj] at this
    exact this
  · have hj2 : (T ++ [q]).length < (T ++ [q] ++ [62]).length := by simp
    have := hcell (T ++ [q]).length hj2
    rw [List.getElem_append_right (Nat.le_refl _)] at this
    simpa using this
theorem le_big {T : List Int} (h : T.length ≤ 200000) : T.length ≤ 1000000000 := by omega
theorem le_big2 {T : List Int} {q : Int} (h : T.length ≤ 200000) : (T ++ [q]).length ≤ 1000000000 := by simp; omega
def NIs (b : Bool) (s : ByteArray) : Prop := b = true ↔ ∀ c ∈ lst s, nameB c
def KIs (b : Bool) (s : ByteArray) : Prop := b = true ↔ ∀ c ∈ lst s, keyB c
def VIs (b : Bool) (s : ByteArray) (q : Int) : Prop := b = true ↔ ∀ c ∈ lst s, c ≠ q
theorem text_rng {name key val : List Int} {sb sa : Bool} {eq : Nat} {q : Int} (hn : ∀ c ∈ name, 0 ≤ c ∧ c ≤ 255) (hk : ∀ c ∈ key, 0 ≤ c ∧ c ≤ 255) (hv : ∀ c ∈ val, 0 ≤ c ∧ c ≤ 255) (hq : 0 ≤ q ∧ q ≤ 255) : ∀ x ∈ text name key sb eq sa q val, 0 ≤ x ∧ x ≤ 255 := by
  have hs : ∀ b x, x ∈ sp1 b → 0 ≤ x ∧ x ≤ 255 := by
    intro b x hx
    unfold sp1 at hx
    split at hx
    · simp at hx; omega
    · simp at hx
  intro x hx
  simp only [text, front, List.mem_append, List.mem_singleton] at hx
  rcases hx with ((((((hx | hx) | hx) | hx) | hx) | hx) | hx) | hx
  · exact hn x hx
  · omega
  · exact hk x hx
  · exact hs _ x hx
  · have := List.eq_of_mem_replicate hx; omega
  · exact hs _ x hx
  · omega
  · exact hv x hx

set_option maxRecDepth 100000 in
theorem bad_name_false (a b c : ByteArray) (l : Bool) (w : World) (h : a.size + b.size + c.size ≤ 1048576) (h1 : a.size ≤ 65536) (h2 : b.size ≤ 65536) (h3 : c.size ≤ 65536) (hN : NIs false a) : Calls Try.prog 8 #[.string a, .string b, .string c, .bool l, .bool false] w fun e w' => e = .returned (.bool true) ∧ Below w.heap.size w w' := by
  have d1 : decide ((65536 : Int) < (a.size : Int)) = false := decide_eq_false (by omega)
  have d2 : decide ((65536 : Int) < (b.size : Int)) = false := decide_eq_false (by omega)
  have d3 : decide ((65536 : Int) < (c.size : Int)) = false := decide_eq_false (by omega)
  go_enter Try.func8, Try.ntmps8
  go_wp2_with (first | (go_at_call 24; refine (bytes_yes _ _ _ _ _ _ h).mono ?_; rintro e w' ⟨rfl, rfl⟩) | (go_at_call 25; refine (nameOK a false _ h1 hN).mono ?_; rintro e w' ⟨rfl, rfl⟩))
  go_ret
  exact ⟨rfl, Below.refl _ _⟩

set_option maxRecDepth 100000 in
theorem bad_empty_false (a b c : ByteArray) (l : Bool) (w : World) (h : a.size + b.size + c.size ≤ 1048576) (h1 : a.size ≤ 65536) (h2 : b.size ≤ 65536) (h3 : c.size ≤ 65536) (hN : NIs true a) (hb0 : b.size = 0) : Calls Try.prog 8 #[.string a, .string b, .string c, .bool l, .bool false] w fun e w' => e = .returned (.bool true) ∧ Below w.heap.size w w' := by
  have d1 : decide ((65536 : Int) < (a.size : Int)) = false := decide_eq_false (by omega)
  have d2 : decide ((65536 : Int) < (b.size : Int)) = false := decide_eq_false (by omega)
  have d3 : decide ((65536 : Int) < (c.size : Int)) = false := decide_eq_false (by omega)
  have HB : Hid (b.size = 0) := hb0
  clear hb0
  go_enter Try.func8, Try.ntmps8
  go_wp2_with (first | (go_at_call 24; refine (bytes_yes _ _ _ _ _ _ h).mono ?_; rintro e w' ⟨rfl, rfl⟩) | (go_at_call 25; refine (nameOK a true _ h1 hN).mono ?_; rintro e w' ⟨rfl, rfl⟩) | (go_at_call 26; refine (attrOK_empty b _ HB.out).mono ?_; rintro e w' ⟨rfl, rfl⟩))
  go_ret
  exact ⟨rfl, Below.refl _ _⟩

set_option maxRecDepth 100000 in
theorem bad_key_false (a b c : ByteArray) (l : Bool) (w : World) (h : a.size + b.size + c.size ≤ 1048576) (h1 : a.size ≤ 65536) (h2 : b.size ≤ 65536) (h3 : c.size ≤ 65536) (hN : NIs true a) (hb0 : 0 < b.size) (hK : KIs false b) : Calls Try.prog 8 #[.string a, .string b, .string c, .bool l, .bool false] w fun e w' => e = .returned (.bool true) ∧ Below w.heap.size w w' := by
  have d1 : decide ((65536 : Int) < (a.size : Int)) = false := decide_eq_false (by omega)
  have d2 : decide ((65536 : Int) < (b.size : Int)) = false := decide_eq_false (by omega)
  have d3 : decide ((65536 : Int) < (c.size : Int)) = false := decide_eq_false (by omega)
  go_enter Try.func8, Try.ntmps8
  go_wp2_with (first | (go_at_call 24; refine (bytes_yes _ _ _ _ _ _ h).mono ?_; rintro e w' ⟨rfl, rfl⟩) | (go_at_call 25; refine (nameOK a true _ h1 hN).mono ?_; rintro e w' ⟨rfl, rfl⟩) | (go_at_call 26; refine (attrOK_some b false _ h2 hb0 hK).mono ?_; rintro e w' ⟨rfl, rfl⟩))
  go_ret
  exact ⟨rfl, Below.refl _ _⟩

set_option maxRecDepth 100000 in
theorem bad_val_false (a b c : ByteArray) (l : Bool) (w : World) (h : a.size + b.size + c.size ≤ 1048576) (h1 : a.size ≤ 65536) (h2 : b.size ≤ 65536) (h3 : c.size ≤ 65536) (hN : NIs true a) (hb0 : 0 < b.size) (hK : KIs true b) (hV : VIs false c 34) : Calls Try.prog 8 #[.string a, .string b, .string c, .bool l, .bool false] w fun e w' => e = .returned (.bool true) ∧ Below w.heap.size w w' := by
  have d1 : decide ((65536 : Int) < (a.size : Int)) = false := decide_eq_false (by omega)
  have d2 : decide ((65536 : Int) < (b.size : Int)) = false := decide_eq_false (by omega)
  have d3 : decide ((65536 : Int) < (c.size : Int)) = false := decide_eq_false (by omega)
  go_enter Try.func8, Try.ntmps8
  go_wp2_with (first | (go_at_call 24; refine (bytes_yes _ _ _ _ _ _ h).mono ?_; rintro e w' ⟨rfl, rfl⟩) | (go_at_call 25; refine (nameOK a true _ h1 hN).mono ?_; rintro e w' ⟨rfl, rfl⟩) | (go_at_call 26; refine (attrOK_some b true _ h2 hb0 hK).mono ?_; rintro e w' ⟨rfl, rfl⟩) | (go_at_call 27; refine (hasByte c 34 false _ h3 hV).mono ?_; rintro e w' ⟨rfl, rfl⟩))
  go_ret
  exact ⟨rfl, Below.refl _ _⟩

set_option maxRecDepth 100000 in
set_option maxHeartbeats 3200000 in
theorem main_false (a b c : ByteArray) (l : Bool) (w : World) (h : a.size + b.size + c.size ≤ 1048576) (h1 : a.size ≤ 65536) (h2 : b.size ≤ 65536) (h3 : c.size ≤ 65536) (hN : NIs true a) (hb0 : 0 < b.size) (hK : KIs true b) (hV : VIs true c 34) : Calls Try.prog 8 #[.string a, .string b, .string c, .bool l, .bool false] w fun e w' => e = .returned (.bool true) ∧ Below w.heap.size w w' := by
  have d1 : decide ((65536 : Int) < (a.size : Int)) = false := decide_eq_false (by omega)
  have d2 : decide ((65536 : Int) < (b.size : Int)) = false := decide_eq_false (by omega)
  have d3 : decide ((65536 : Int) < (c.size : Int)) = false := decide_eq_false (by omega)
  have tok1 : True := trivial
  have tok2 : True := trivial
  have tok3 : True := trivial
  have HMID : Hid (Mid l (text (lst a) (lst b) false 1 false 34 (lst c) ++ [34]) 0 m0) := start l (lst a) (lst b) (lst c) 34 (hN.1 rfl) (hK.1 rfl) (by intro e; have := Num.lst_length b; rw [e] at this; simp at this; omega) (by omega) (hV.1 rfl)
  have HRNG : Hid (∀ x ∈ text (lst a) (lst b) false 1 false 34 (lst c) ++ [34], 0 ≤ x ∧ x ≤ 255) := by
    intro x hx
    simp only [List.mem_append, List.mem_singleton] at hx
    rcases hx with hx | hx
    · exact text_rng (Num.lst_rng a) (Num.lst_rng b) (Num.lst_rng c) (by omega) x hx
    · omega
  have HLEN : Hid ((text (lst a) (lst b) false 1 false 34 (lst c)).length ≤ 200000) := by unfold Hid; simp [text, front, sp1, Num.lst_length]; omega
  go_enter Try.func8, Try.ntmps8
  go_wp2_with (first
    | (go_at_call 24; refine (bytes_yes _ _ _ _ _ _ h).mono ?_; rintro e w' ⟨rfl, rfl⟩)
    | (go_at_call 25; refine (nameOK a true _ h1 hN).mono ?_; rintro e w' ⟨rfl, rfl⟩)
    | (go_at_call 26; refine (attrOK_some b true _ h2 hb0 hK).mono ?_; rintro e w' ⟨rfl, rfl⟩)
    | (go_at_call 27; refine (hasByte c 34 true _ h3 hV).mono ?_; rintro e w' ⟨rfl, rfl⟩)
    | (go_at_call 28; refine (openTag a b c false false 1 34 w h1 h2 h3 (by omega)).mono ?_; rintro e w1 ⟨v1, rfl, hO1, hb1⟩; have hB1 := hb1.size)
    | (at_builtin; have _t := tok1; refine push w1 rfl (.tmp 61) (.tmp 63) rfl w.heap.size _ _ 34 rfl rfl hO1 (le_big HLEN.out) hB1 ?_; intro v2 w2 hO2 hg2 ha2; clear tok1 ha2; have hb2 := Open.bel_push hb1 hB1 hO1 hg2; have hB2 := hb2.size)
    | (at_builtin; have _t := tok2; refine push w2 rfl (.tmp 65) (.tmp 66) rfl w.heap.size _ _ 62 rfl rfl hO2 (le_big2 HLEN.out) hB2 ?_; intro v3 w3 hO3 hg3 ha3; clear tok2 ha3; have hb3 := Open.bel_push hb2 hB2 hO2 hg3; have hB3 := hb3.size; obtain ⟨L, n, g, cc, hv3, hg, hS⟩ := pack2 hO3 HMID.out HRNG.out HLEN.out; clear hO1 hO2 hO3; subst hv3)
    | (go_at_call 21; refine (Tag.new_any _).mono ?_; rintro e w5 ⟨rfl, hb5⟩)
    | (refine wpList_store_row rfl 45 (.tmp 14) (.tmp 68) rfl _ Tag.fresh rfl rfl 45 _ (heap_alloc_new _ _) Tag.size45 rfl Tag.fresh_one ?_))
  have hB5 := hb5.size
  have hn := hS.small
  clear HMID HRNG HLEN hN hK hV hb1 hb2 hB1 hB2 hg2 hg3
  go_loopw [15] (fun iv wr => ∃ (k : Nat) (m : M), iv = .int .i64 k ∧ k ≤ n + 1 ∧ Box w5.heap.size m wr ∧ Open.Good k m ∧ Mid l L k m ∧ Below w3.heap.size w3 wr) (fun iv _ => n + 1 - (intOf iv).toNat)
  case atStart => exact ⟨0, m0, rfl, Nat.zero_le _, Tag.fresh_box (Tag.heap_setRow_alloc _ _ _ _), good_zero, hS.mid, Tag.setRow_below (hb5.alloc hB5 _) _ hB5 _⟩
  case round =>
    obtain ⟨k, m, rfl, hk, hbox, hgood, hmid, hbel⟩ := hrel
    have hfit := hgood.fit (by omega)
    by_cases hlt : k < n
    · have hkL : k < L.length := by rw [hS.len]; exact hlt
      have hc : wr.cell? ⟨g, k, none⟩ = some (.int .u8 L[k]) := (hbel.cell hg).trans (hS.cells k hkL)
      obtain ⟨c0, c1⟩ := hS.rng L[k] (List.getElem_mem hkL)
      obtain ⟨hr, hmid'⟩ := mid_on hmid hkL
      have hgood' := step_good hgood L[k] ((k : Int) + 1) l c0 c1
      have hkn : ((k : Int) == (n : Int)) = false := beq_eq_false_iff_ne.2 (by omega)
      have hkn2 : ((k : Int) == (n : Int) + 1 - 1) = false := beq_eq_false_iff_ne.2 (by omega)
      obtain ⟨cb, hcb⟩ : ∃ cb, cb = L[k] := ⟨_, rfl⟩
      rw [← hcb] at hc c0 c1 hr hmid' hgood'
      clear hcb
      go_wp2_with (go_at_call 22; refine (Tag.zzTagStep w5.heap.size m _ _ _ _ hbox hfit c0 c1).mono ?_; rintro e w6 ⟨rfl, hb6, ho6⟩)
      go_roundw
      case rel => exact ⟨k + 1, _, by go_num, by omega, hb6, hgood', hmid', hbel.trans (ho6.below hB5)⟩
      case measure => simp [intOf]; omega
    · by_cases heq : k = n
      · subst heq
        have hc : wr.cell? ⟨g, k, none⟩ = some (.int .u8 62) := (hbel.cell hg).trans hS.gt
        obtain ⟨hr, ht1⟩ := mid_gt hmid hS.len.symm
        have hgood' := step_good hgood 62 ((k : Int) + 1) l (by omega) (by omega)
        have hkn2 : ((k : Int) == (k : Int) + 1 - 1) = true := beq_iff_eq.2 (by omega)
        have hst := Tag.zzTagStep w5.heap.size m 62 ((k : Int) + 1) l wr hbox hfit (by omega) (by omega)
        rw [hr] at hst hgood'
        have HL : Hid (L.length = k) := hS.len
        have HT1 : Hid (m.tag = 1) := ht1
        clear hr ht1 hmid
        go_wp2_with (go_at_call 22; refine hst.mono ?_; rintro e w6 ⟨rfl, hb6, ho6⟩)
        go_roundw
        case rel => exact ⟨k + 1, m, by go_num, by omega, hb6, hgood', Or.inr ⟨by rw [HL.out], HT1.out⟩, hbel.trans (ho6.below hB5)⟩
        case measure => simp [intOf]
      · have hk2 : k = n + 1 := by omega
        subst hk2
        have HT1 : Hid (m.tag = 1) := by
          rcases hmid with ⟨h5, _⟩ | ⟨_, h6⟩
          · have := hS.len; omega
          · exact h6
        clear hmid
        go_wp2_with (go_at_call 29; refine (zzUnq_out w5.heap.size m _ hbox HT1.out).mono ?_; rintro e w6 ⟨rfl, ho6⟩)
        go_ret
        exact ⟨rfl, hb3.trans ((hbel.mono hB3).trans (ho6.below (by omega)))⟩

set_option maxRecDepth 100000 in
theorem bad_name_true (a b c : ByteArray) (l : Bool) (w : World) (h : a.size + b.size + c.size ≤ 1048576) (h1 : a.size ≤ 65536) (h2 : b.size ≤ 65536) (h3 : c.size ≤ 65536) (hN : NIs false a) : Calls Try.prog 8 #[.string a, .string b, .string c, .bool l, .bool true] w fun e w' => e = .returned (.bool true) ∧ Below w.heap.size w w' := by
  have d1 : decide ((65536 : Int) < (a.size : Int)) = false := decide_eq_false (by omega)
  have d2 : decide ((65536 : Int) < (b.size : Int)) = false := decide_eq_false (by omega)
  have d3 : decide ((65536 : Int) < (c.size : Int)) = false := decide_eq_false (by omega)
  go_enter Try.func8, Try.ntmps8
  go_wp2_with (first | (go_at_call 24; refine (bytes_yes _ _ _ _ _ _ h).mono ?_; rintro e w' ⟨rfl, rfl⟩) | (go_at_call 25; refine (nameOK a false _ h1 hN).mono ?_; rintro e w' ⟨rfl, rfl⟩))
  go_ret
  exact ⟨rfl, Below.refl _ _⟩

set_option maxRecDepth 100000 in
theorem bad_empty_true (a b c : ByteArray) (l : Bool) (w : World) (h : a.size + b.size + c.size ≤ 1048576) (h1 : a.size ≤ 65536) (h2 : b.size ≤ 65536) (h3 : c.size ≤ 65536) (hN : NIs true a) (hb0 : b.size = 0) : Calls Try.prog 8 #[.string a, .string b, .string c, .bool l, .bool true] w fun e w' => e = .returned (.bool true) ∧ Below w.heap.size w w' := by
  have d1 : decide ((65536 : Int) < (a.size : Int)) = false := decide_eq_false (by omega)
  have d2 : decide ((65536 : Int) < (b.size : Int)) = false := decide_eq_false (by omega)
  have d3 : decide ((65536 : Int) < (c.size : Int)) = false := decide_eq_false (by omega)
  have HB : Hid (b.size = 0) := hb0
  clear hb0
  go_enter Try.func8, Try.ntmps8
  go_wp2_with (first | (go_at_call 24; refine (bytes_yes _ _ _ _ _ _ h).mono ?_; rintro e w' ⟨rfl, rfl⟩) | (go_at_call 25; refine (nameOK a true _ h1 hN).mono ?_; rintro e w' ⟨rfl, rfl⟩) | (go_at_call 26; refine (attrOK_empty b _ HB.out).mono ?_; rintro e w' ⟨rfl, rfl⟩))
  go_ret
  exact ⟨rfl, Below.refl _ _⟩

set_option maxRecDepth 100000 in
theorem bad_key_true (a b c : ByteArray) (l : Bool) (w : World) (h : a.size + b.size + c.size ≤ 1048576) (h1 : a.size ≤ 65536) (h2 : b.size ≤ 65536) (h3 : c.size ≤ 65536) (hN : NIs true a) (hb0 : 0 < b.size) (hK : KIs false b) : Calls Try.prog 8 #[.string a, .string b, .string c, .bool l, .bool true] w fun e w' => e = .returned (.bool true) ∧ Below w.heap.size w w' := by
  have d1 : decide ((65536 : Int) < (a.size : Int)) = false := decide_eq_false (by omega)
  have d2 : decide ((65536 : Int) < (b.size : Int)) = false := decide_eq_false (by omega)
  have d3 : decide ((65536 : Int) < (c.size : Int)) = false := decide_eq_false (by omega)
  go_enter Try.func8, Try.ntmps8
  go_wp2_with (first | (go_at_call 24; refine (bytes_yes _ _ _ _ _ _ h).mono ?_; rintro e w' ⟨rfl, rfl⟩) | (go_at_call 25; refine (nameOK a true _ h1 hN).mono ?_; rintro e w' ⟨rfl, rfl⟩) | (go_at_call 26; refine (attrOK_some b false _ h2 hb0 hK).mono ?_; rintro e w' ⟨rfl, rfl⟩))
  go_ret
  exact ⟨rfl, Below.refl _ _⟩

set_option maxRecDepth 100000 in
theorem bad_val_true (a b c : ByteArray) (l : Bool) (w : World) (h : a.size + b.size + c.size ≤ 1048576) (h1 : a.size ≤ 65536) (h2 : b.size ≤ 65536) (h3 : c.size ≤ 65536) (hN : NIs true a) (hb0 : 0 < b.size) (hK : KIs true b) (hV : VIs false c 39) : Calls Try.prog 8 #[.string a, .string b, .string c, .bool l, .bool true] w fun e w' => e = .returned (.bool true) ∧ Below w.heap.size w w' := by
  have d1 : decide ((65536 : Int) < (a.size : Int)) = false := decide_eq_false (by omega)
  have d2 : decide ((65536 : Int) < (b.size : Int)) = false := decide_eq_false (by omega)
  have d3 : decide ((65536 : Int) < (c.size : Int)) = false := decide_eq_false (by omega)
  go_enter Try.func8, Try.ntmps8
  go_wp2_with (first | (go_at_call 24; refine (bytes_yes _ _ _ _ _ _ h).mono ?_; rintro e w' ⟨rfl, rfl⟩) | (go_at_call 25; refine (nameOK a true _ h1 hN).mono ?_; rintro e w' ⟨rfl, rfl⟩) | (go_at_call 26; refine (attrOK_some b true _ h2 hb0 hK).mono ?_; rintro e w' ⟨rfl, rfl⟩) | (go_at_call 27; refine (hasByte c 39 false _ h3 hV).mono ?_; rintro e w' ⟨rfl, rfl⟩))
  go_ret
  exact ⟨rfl, Below.refl _ _⟩

set_option maxRecDepth 100000 in
set_option maxHeartbeats 3200000 in
theorem main_true (a b c : ByteArray) (l : Bool) (w : World) (h : a.size + b.size + c.size ≤ 1048576) (h1 : a.size ≤ 65536) (h2 : b.size ≤ 65536) (h3 : c.size ≤ 65536) (hN : NIs true a) (hb0 : 0 < b.size) (hK : KIs true b) (hV : VIs true c 39) : Calls Try.prog 8 #[.string a, .string b, .string c, .bool l, .bool true] w fun e w' => e = .returned (.bool true) ∧ Below w.heap.size w w' := by
  have d1 : decide ((65536 : Int) < (a.size : Int)) = false := decide_eq_false (by omega)
  have d2 : decide ((65536 : Int) < (b.size : Int)) = false := decide_eq_false (by omega)
  have d3 : decide ((65536 : Int) < (c.size : Int)) = false := decide_eq_false (by omega)
  have tok1 : True := trivial
  have tok2 : True := trivial
  have tok3 : True := trivial
  have HMID : Hid (Mid l (text (lst a) (lst b) false 1 false 39 (lst c) ++ [39]) 0 m0) := start l (lst a) (lst b) (lst c) 39 (hN.1 rfl) (hK.1 rfl) (by intro e; have := Num.lst_length b; rw [e] at this; simp at this; omega) (by omega) (hV.1 rfl)
  have HRNG : Hid (∀ x ∈ text (lst a) (lst b) false 1 false 39 (lst c) ++ [39], 0 ≤ x ∧ x ≤ 255) := by
    intro x hx
    simp only [List.mem_append, List.mem_singleton] at hx
    rcases hx with hx | hx
    · exact text_rng (Num.lst_rng a) (Num.lst_rng b) (Num.lst_rng c) (by omega) x hx
    · omega
  have HLEN : Hid ((text (lst a) (lst b) false 1 false 39 (lst c)).length ≤ 200000) := by unfold Hid; simp [text, front, sp1, Num.lst_length]; omega
  go_enter Try.func8, Try.ntmps8
  go_wp2_with (first
    | (go_at_call 24; refine (bytes_yes _ _ _ _ _ _ h).mono ?_; rintro e w' ⟨rfl, rfl⟩)
    | (go_at_call 25; refine (nameOK a true _ h1 hN).mono ?_; rintro e w' ⟨rfl, rfl⟩)
    | (go_at_call 26; refine (attrOK_some b true _ h2 hb0 hK).mono ?_; rintro e w' ⟨rfl, rfl⟩)
    | (go_at_call 27; refine (hasByte c 39 true _ h3 hV).mono ?_; rintro e w' ⟨rfl, rfl⟩)
    | (go_at_call 28; refine (openTag a b c false false 1 39 w h1 h2 h3 (by omega)).mono ?_; rintro e w1 ⟨v1, rfl, hO1, hb1⟩; have hB1 := hb1.size)
    | (at_builtin; have _t := tok1; refine push w1 rfl (.tmp 61) (.tmp 63) rfl w.heap.size _ _ 39 rfl rfl hO1 (le_big HLEN.out) hB1 ?_; intro v2 w2 hO2 hg2 ha2; clear tok1 ha2; have hb2 := Open.bel_push hb1 hB1 hO1 hg2; have hB2 := hb2.size)
    | (at_builtin; have _t := tok2; refine push w2 rfl (.tmp 65) (.tmp 66) rfl w.heap.size _ _ 62 rfl rfl hO2 (le_big2 HLEN.out) hB2 ?_; intro v3 w3 hO3 hg3 ha3; clear tok2 ha3; have hb3 := Open.bel_push hb2 hB2 hO2 hg3; have hB3 := hb3.size; obtain ⟨L, n, g, cc, hv3, hg, hS⟩ := pack2 hO3 HMID.out HRNG.out HLEN.out; clear hO1 hO2 hO3; subst hv3)
    | (go_at_call 21; refine (Tag.new_any _).mono ?_; rintro e w5 ⟨rfl, hb5⟩)
    | (refine wpList_store_row rfl 45 (.tmp 14) (.tmp 68) rfl _ Tag.fresh rfl rfl 45 _ (heap_alloc_new _ _) Tag.size45 rfl Tag.fresh_one ?_))
  have hB5 := hb5.size
  have hn := hS.small
  clear HMID HRNG HLEN hN hK hV hb1 hb2 hB1 hB2 hg2 hg3
  go_loopw [15] (fun iv wr => ∃ (k : Nat) (m : M), iv = .int .i64 k ∧ k ≤ n + 1 ∧ Box w5.heap.size m wr ∧ Open.Good k m ∧ Mid l L k m ∧ Below w3.heap.size w3 wr) (fun iv _ => n + 1 - (intOf iv).toNat)
  case atStart => exact ⟨0, m0, rfl, Nat.zero_le _, Tag.fresh_box (Tag.heap_setRow_alloc _ _ _ _), good_zero, hS.mid, Tag.setRow_below (hb5.alloc hB5 _) _ hB5 _⟩
  case round =>
    obtain ⟨k, m, rfl, hk, hbox, hgood, hmid, hbel⟩ := hrel
    have hfit := hgood.fit (by omega)
    by_cases hlt : k < n
    · have hkL : k < L.length := by rw [hS.len]; exact hlt
      have hc : wr.cell? ⟨g, k, none⟩ = some (.int .u8 L[k]) := (hbel.cell hg).trans (hS.cells k hkL)
      obtain ⟨c0, c1⟩ := hS.rng L[k] (List.getElem_mem hkL)
      obtain ⟨hr, hmid'⟩ := mid_on hmid hkL
      have hgood' := step_good hgood L[k] ((k : Int) + 1) l c0 c1
      have hkn : ((k : Int) == (n : Int)) = false := beq_eq_false_iff_ne.2 (by omega)
      have hkn2 : ((k : Int) == (n : Int) + 1 - 1) = false := beq_eq_false_iff_ne.2 (by omega)
      obtain ⟨cb, hcb⟩ : ∃ cb, cb = L[k] := ⟨_, rfl⟩
      rw [← hcb] at hc c0 c1 hr hmid' hgood'
      clear hcb
      go_wp2_with (go_at_call 22; refine (Tag.zzTagStep w5.heap.size m _ _ _ _ hbox hfit c0 c1).mono ?_; rintro e w6 ⟨rfl, hb6, ho6⟩)
      go_roundw
      case rel => exact ⟨k + 1, _, by go_num, by omega, hb6, hgood', hmid', hbel.trans (ho6.below hB5)⟩
      case measure => simp [intOf]; omega
    · by_cases heq : k = n
      · subst heq
        have hc : wr.cell? ⟨g, k, none⟩ = some (.int .u8 62) := (hbel.cell hg).trans hS.gt
        obtain ⟨hr, ht1⟩ := mid_gt hmid hS.len.symm
        have hgood' := step_good hgood 62 ((k : Int) + 1) l (by omega) (by omega)
        have hkn2 : ((k : Int) == (k : Int) + 1 - 1) = true := beq_iff_eq.2 (by omega)
        have hst := Tag.zzTagStep w5.heap.size m 62 ((k : Int) + 1) l wr hbox hfit (by omega) (by omega)
        rw [hr] at hst hgood'
        have HL : Hid (L.length = k) := hS.len
        have HT1 : Hid (m.tag = 1) := ht1
        clear hr ht1 hmid
        go_wp2_with (go_at_call 22; refine hst.mono ?_; rintro e w6 ⟨rfl, hb6, ho6⟩)
        go_roundw
        case rel => exact ⟨k + 1, m, by go_num, by omega, hb6, hgood', Or.inr ⟨by rw [HL.out], HT1.out⟩, hbel.trans (ho6.below hB5)⟩
        case measure => simp [intOf]
      · have hk2 : k = n + 1 := by omega
        subst hk2
        have HT1 : Hid (m.tag = 1) := by
          rcases hmid with ⟨h5, _⟩ | ⟨_, h6⟩
          · have := hS.len; omega
          · exact h6
        clear hmid
        go_wp2_with (go_at_call 29; refine (zzUnq_out w5.heap.size m _ hbox HT1.out).mono ?_; rintro e w6 ⟨rfl, ho6⟩)
        go_ret
        exact ⟨rfl, hb3.trans ((hbel.mono hB3).trans (ho6.below (by omega)))⟩

end Hide
end Go.Proofs.Qxb6000730a

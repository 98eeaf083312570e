/-
  FnUnquoteReadsOnAfterQuoteExactlyAsDocumented: the walk.
-/
import Derived.Test.Qxb6000730aHide
namespace Go.Proofs.Qxb6000730a
open Go.ChangeShapes Go.WideShapes Go.ChangeAt Go.RowKit
namespace UnqLaw
open Go.Proofs.Qxb6000730a.Open
open Hide (NIs KIs VIs text_rng)
open Num (lst)
open Bytes
open Tag (M Box m0)
set_option linter.unusedVariables false

theorem bytes_yes (a b c : ByteArray) (sb sa sg : Bool) (n : Int) (w : World) (h : a.size + b.size + c.size ≤ 1048576) : Calls Try.prog 30 #[.string a, .string b, .bool sb, .int .u8 n, .bool sa, .bool sg, .string c] w fun e w' => e = .returned (.bool true) ∧ w = w' := by
  go_enter Try.func30, Try.ntmps30
  go_wp2
  go_ret
  exact ⟨rfl, rfl⟩
theorem bytes_no (a b c : ByteArray) (sb sa sg : Bool) (n : Int) (w : World) (ha : a.size ≤ maxLen) (hb : b.size ≤ maxLen) (hc : c.size ≤ maxLen) (h : 1048576 < a.size + b.size + c.size) : Calls Try.prog 30 #[.string a, .string b, .bool sb, .int .u8 n, .bool sa, .bool sg, .string c] w fun e w' => e = .returned (.bool false) ∧ w = w' := by
  unfold maxLen at ha hb hc
  by_cases h1 : 1048576 < a.size
  · go_enter Try.func30, Try.ntmps30
    go_wp2
    go_ret
    exact ⟨rfl, rfl⟩
  by_cases h2 : 1048576 < b.size
  · go_enter Try.func30, Try.ntmps30
    go_wp2
    go_ret
    exact ⟨rfl, rfl⟩
  by_cases h3 : 1048576 < a.size + b.size
  · go_enter Try.func30, Try.ntmps30
    go_wp2
    go_ret
    exact ⟨rfl, rfl⟩
  by_cases h4 : 1048576 < c.size
  · go_enter Try.func30, Try.ntmps30
    go_wp2
    go_ret
    exact ⟨rfl, rfl⟩
  go_enter Try.func30, Try.ntmps30
  go_wp2
  go_ret
  exact ⟨rfl, rfl⟩

theorem toolong (a b c : ByteArray) (sb sa sg : Bool) (n : Int) (w : World) (ha : a.size ≤ maxLen) (hb : b.size ≤ maxLen) (hc : c.size ≤ maxLen) (h : 1048576 < a.size + b.size + c.size) : Calls Try.prog 9 #[.string a, .string b, .bool sb, .int .u8 n, .bool sa, .bool sg, .string c] w fun e w' => e = .returned (.bool true) ∧ Below w.heap.size w w' := by
  go_enter Try.func9, Try.ntmps9
  go_wp2_with (go_at_call 30; refine (bytes_no _ _ _ _ _ _ _ _ ha hb hc h).mono ?_; rintro e w' ⟨rfl, rfl⟩)
  go_ret
  exact ⟨rfl, Below.refl _ _⟩
theorem long1 (a b c : ByteArray) (sb sa sg : Bool) (n : Int) (w : World) (h : a.size + b.size + c.size ≤ 1048576) (h2 : 65536 < a.size) : Calls Try.prog 9 #[.string a, .string b, .bool sb, .int .u8 n, .bool sa, .bool sg, .string c] w fun e w' => e = .returned (.bool true) ∧ Below w.heap.size w w' := by
  have d1 : decide ((65536 : Int) < (a.size : Int)) = true := decide_eq_true (by omega)
  go_enter Try.func9, Try.ntmps9
  go_wp2_with (go_at_call 30; refine (bytes_yes _ _ _ _ _ _ _ _ h).mono ?_; rintro e w' ⟨rfl, rfl⟩)
  go_ret
  exact ⟨rfl, Below.refl _ _⟩
theorem long2 (a b c : ByteArray) (sb sa sg : Bool) (n : Int) (w : World) (h : a.size + b.size + c.size ≤ 1048576) (h1 : a.size ≤ 65536) (h2 : 65536 < b.size) : Calls Try.prog 9 #[.string a, .string b, .bool sb, .int .u8 n, .bool sa, .bool sg, .string c] w fun e w' => e = .returned (.bool true) ∧ Below w.heap.size w w' := by
  have d1 : decide ((65536 : Int) < (a.size : Int)) = false := decide_eq_false (by omega)
  have d2 : decide ((65536 : Int) < (b.size : Int)) = true := decide_eq_true (by omega)
  go_enter Try.func9, Try.ntmps9
  go_wp2_with (go_at_call 30; refine (bytes_yes _ _ _ _ _ _ _ _ h).mono ?_; rintro e w' ⟨rfl, rfl⟩)
  go_ret
  exact ⟨rfl, Below.refl _ _⟩
theorem long3 (a b c : ByteArray) (sb sa sg : Bool) (n : Int) (w : World) (h : a.size + b.size + c.size ≤ 1048576) (h1 : a.size ≤ 65536) (h2 : b.size ≤ 65536) (h3 : 65536 < c.size) : Calls Try.prog 9 #[.string a, .string b, .bool sb, .int .u8 n, .bool sa, .bool sg, .string c] w fun e w' => e = .returned (.bool true) ∧ Below w.heap.size w w' := by
  have d1 : decide ((65536 : Int) < (a.size : Int)) = false := decide_eq_false (by omega)
  have d2 : decide ((65536 : Int) < (b.size : Int)) = false := decide_eq_false (by omega)
  have d3 : decide ((65536 : Int) < (c.size : Int)) = true := decide_eq_true (by omega)
  go_enter Try.func9, Try.ntmps9
  go_wp2_with (go_at_call 30; refine (bytes_yes _ _ _ _ _ _ _ _ h).mono ?_; rintro e w' ⟨rfl, rfl⟩)
  go_ret
  exact ⟨rfl, Below.refl _ _⟩
theorem zero (a b c : ByteArray) (sb sa sg : Bool) (w : World) (h : a.size + b.size + c.size ≤ 1048576) (h1 : a.size ≤ 65536) (h2 : b.size ≤ 65536) (h3 : c.size ≤ 65536) : Calls Try.prog 9 #[.string a, .string b, .bool sb, .int .u8 0, .bool sa, .bool sg, .string c] w fun e w' => e = .returned (.bool true) ∧ Below w.heap.size w w' := by
  have d1 : decide ((65536 : Int) < (a.size : Int)) = false := decide_eq_false (by omega)
  have d2 : decide ((65536 : Int) < (b.size : Int)) = false := decide_eq_false (by omega)
  have d3 : decide ((65536 : Int) < (c.size : Int)) = false := decide_eq_false (by omega)
  go_enter Try.func9, Try.ntmps9
  go_wp2_with (go_at_call 30; refine (bytes_yes _ _ _ _ _ _ _ _ h).mono ?_; rintro e w' ⟨rfl, rfl⟩)
  go_ret
  exact ⟨rfl, Below.refl _ _⟩

/-- The reader inside the text L. -/
def Mid (sb : Bool) (eq : Nat) (sa : Bool) (q : Int) (qi : Nat) (last : Int) (L : List Int) (k : Nat) (m : M) : Prop := k ≤ L.length ∧ ∃ mE, At sb eq sa false q qi last mE ∧ Runs false k m (L.drop k) mE
theorem mid_on {sb : Bool} {eq : Nat} {sa : Bool} {q : Int} {qi : Nat} {last : Int} {L : List Int} {k : Nat} {m : M} (h : Mid sb eq sa q qi last L k m) (hk : k < L.length) : (Tag.step m L[k] ((k : Int) + 1) false).2 = 0 ∧ Mid sb eq sa q qi last L (k + 1) (Tag.step m L[k] ((k : Int) + 1) false).1 := by
  obtain ⟨_, mE, h1, h2⟩ := h
  rw [List.drop_eq_getElem_cons hk] at h2
  exact ⟨h2.1, by omega, mE, h1, h2.2⟩
theorem mid_end {sb : Bool} {eq : Nat} {sa : Bool} {q : Int} {qi : Nat} {last : Int} {L : List Int} {k : Nat} {m : M} (h : Mid sb eq sa q qi last L k m) (hk : ¬ k < L.length) : At sb eq sa false q qi last m := by
  obtain ⟨_, mE, h1, h2⟩ := h
  rw [List.drop_of_length_le (by omega)] at h2
  simp only [Runs] at h2
  subst h2
  exact h1
structure Set (sb : Bool) (eq : Nat) (sa : Bool) (q : Int) (qi : Nat) (last : Int) (L : List Int) (n g : Nat) (w : World) : Prop where
  len : L.length = n
  small : n ≤ 300000
  cells : ∀ j (hj : j < L.length), w.cell? ⟨g, j, none⟩ = some (.int .u8 L[j])
  rng : ∀ c ∈ L, 0 ≤ c ∧ c ≤ 255
  mid : Mid sb eq sa q qi last L 0 m0
theorem pack {B : Nat} {v : Value} {T : List Int} {sb : Bool} {eq : Nat} {sa : Bool} {q : Int} {qi : Nat} {last : Int} {w : World} (h : Own B v T w) (hne : T ≠ []) (hm : Mid sb eq sa q qi last T 0 m0) (hr : ∀ x ∈ T, 0 ≤ x ∧ x ≤ 255) (hl : T.length ≤ 300000) :
    ∃ (L : List Int) (n g c : Nat), v = .slice (some ⟨g, 0, none⟩) n c ∧ g < w.heap.size ∧ Set sb eq sa q qi last L n g w := by
  obtain ⟨g, c, hv, _, hg, hcell⟩ := h.spot hne
  exact ⟨T, T.length, g, c, hv, hg, ⟨rfl, hl, hcell, hr, hm⟩⟩
theorem start (name key val : List Int) (sb : Bool) (eq : Nat) (sa : Bool) (q : Int) (last : Int) (hn : ∀ c ∈ name, nameB c) (hk : ∀ c ∈ key, keyB c) (hne : key ≠ []) (hl : key.getLast hne = last) (heq : 1 ≤ eq) (hq : q = 39 ∨ q = 34) (hv : ∀ c ∈ val, c ≠ q) :
    Mid sb eq sa q (front name key sb eq sa).length last (text name key sb eq sa q val) 0 m0 := by
  obtain ⟨m', g1, g2⟩ := open_run false name key sb eq sa q val hn hk hne heq hq hv
  rw [hl] at g2
  exact ⟨Nat.zero_le _, m', g2, g1⟩
theorem lst_last (s : ByteArray) (h : 0 < s.size) (hne : lst s ≠ []) : (lst s).getLast hne = (s[s.size - 1].toNat : Int) := by
  rw [List.getLast_eq_getElem, ← Num.lst_get s (s.size - 1) (by omega)]
  congr 1
  rw [Num.lst_length]
theorem text_len (name key val : List Int) (sb : Bool) (eq : Nat) (sa : Bool) (q : Int) (h1 : name.length ≤ 65536) (h2 : key.length ≤ 65536) (h3 : val.length ≤ 65536) (he : eq ≤ 255) : (text name key sb eq sa q val).length ≤ 300000 ∧ (front name key sb eq sa).length ≤ 300000 ∧ text name key sb eq sa q val ≠ [] := by
  have hs : ∀ b, (sp1 b).length ≤ 1 := by intro b; cases b <;> simp [sp1]
  have hb := hs sb
  have ha := hs sa
  refine ⟨?_, ?_, by simp [text]⟩
  · simp only [text, front, List.length_append, List.length_replicate, List.length_singleton]; omega
  · simp only [front, List.length_append, List.length_replicate, List.length_singleton]; omega

set_option maxRecDepth 100000 in
theorem bad_name_false (a b c : ByteArray) (sb sa : Bool) (n : Int) (w : World) (h : a.size + b.size + c.size ≤ 1048576) (h1 : a.size ≤ 65536) (h2 : b.size ≤ 65536) (h3 : c.size ≤ 65536) (n1 : 1 ≤ n) (n2 : n ≤ 255) (hN : NIs false a) : Calls Try.prog 9 #[.string a, .string b, .bool sb, .int .u8 n, .bool sa, .bool false, .string c] w fun e w' => e = .returned (.bool true) ∧ Below w.heap.size w w' := by
  have d1 : decide ((65536 : Int) < (a.size : Int)) = false := decide_eq_false (by omega)
  have d2 : decide ((65536 : Int) < (b.size : Int)) = false := decide_eq_false (by omega)
  have d3 : decide ((65536 : Int) < (c.size : Int)) = false := decide_eq_false (by omega)
  have hnz : (n == 0) = false := beq_eq_false_iff_ne.2 (by omega)
  go_enter Try.func9, Try.ntmps9
  go_wp2_with (first | (go_at_call 30; refine (bytes_yes _ _ _ _ _ _ _ _ h).mono ?_; rintro e w' ⟨rfl, rfl⟩) | (go_at_call 25; refine (nameOK a false _ h1 hN).mono ?_; rintro e w' ⟨rfl, rfl⟩))
  go_ret
  exact ⟨rfl, Below.refl _ _⟩

set_option maxRecDepth 100000 in
theorem bad_empty_false (a b c : ByteArray) (sb sa : Bool) (n : Int) (w : World) (h : a.size + b.size + c.size ≤ 1048576) (h1 : a.size ≤ 65536) (h2 : b.size ≤ 65536) (h3 : c.size ≤ 65536) (n1 : 1 ≤ n) (n2 : n ≤ 255) (hN : NIs true a) (hb0 : b.size = 0) : Calls Try.prog 9 #[.string a, .string b, .bool sb, .int .u8 n, .bool sa, .bool false, .string c] w fun e w' => e = .returned (.bool true) ∧ Below w.heap.size w w' := by
  have d1 : decide ((65536 : Int) < (a.size : Int)) = false := decide_eq_false (by omega)
  have d2 : decide ((65536 : Int) < (b.size : Int)) = false := decide_eq_false (by omega)
  have d3 : decide ((65536 : Int) < (c.size : Int)) = false := decide_eq_false (by omega)
  have hnz : (n == 0) = false := beq_eq_false_iff_ne.2 (by omega)
  have HB : Hid (b.size = 0) := hb0
  clear hb0
  go_enter Try.func9, Try.ntmps9
  go_wp2_with (first | (go_at_call 30; refine (bytes_yes _ _ _ _ _ _ _ _ h).mono ?_; rintro e w' ⟨rfl, rfl⟩) | (go_at_call 25; refine (nameOK a true _ h1 hN).mono ?_; rintro e w' ⟨rfl, rfl⟩) | (go_at_call 26; refine (attrOK_empty b _ HB.out).mono ?_; rintro e w' ⟨rfl, rfl⟩))
  go_ret
  exact ⟨rfl, Below.refl _ _⟩

set_option maxRecDepth 100000 in
theorem bad_key_false (a b c : ByteArray) (sb sa : Bool) (n : Int) (w : World) (h : a.size + b.size + c.size ≤ 1048576) (h1 : a.size ≤ 65536) (h2 : b.size ≤ 65536) (h3 : c.size ≤ 65536) (n1 : 1 ≤ n) (n2 : n ≤ 255) (hN : NIs true a) (hb0 : 0 < b.size) (hK : KIs false b) : Calls Try.prog 9 #[.string a, .string b, .bool sb, .int .u8 n, .bool sa, .bool false, .string c] w fun e w' => e = .returned (.bool true) ∧ Below w.heap.size w w' := by
  have d1 : decide ((65536 : Int) < (a.size : Int)) = false := decide_eq_false (by omega)
  have d2 : decide ((65536 : Int) < (b.size : Int)) = false := decide_eq_false (by omega)
  have d3 : decide ((65536 : Int) < (c.size : Int)) = false := decide_eq_false (by omega)
  have hnz : (n == 0) = false := beq_eq_false_iff_ne.2 (by omega)
  go_enter Try.func9, Try.ntmps9
  go_wp2_with (first | (go_at_call 30; refine (bytes_yes _ _ _ _ _ _ _ _ h).mono ?_; rintro e w' ⟨rfl, rfl⟩) | (go_at_call 25; refine (nameOK a true _ h1 hN).mono ?_; rintro e w' ⟨rfl, rfl⟩) | (go_at_call 26; refine (attrOK_some b false _ h2 hb0 hK).mono ?_; rintro e w' ⟨rfl, rfl⟩))
  go_ret
  exact ⟨rfl, Below.refl _ _⟩

set_option maxRecDepth 100000 in
theorem bad_val_false (a b c : ByteArray) (sb sa : Bool) (n : Int) (w : World) (h : a.size + b.size + c.size ≤ 1048576) (h1 : a.size ≤ 65536) (h2 : b.size ≤ 65536) (h3 : c.size ≤ 65536) (n1 : 1 ≤ n) (n2 : n ≤ 255) (hN : NIs true a) (hb0 : 0 < b.size) (hK : KIs true b) (hV : VIs false c 34) : Calls Try.prog 9 #[.string a, .string b, .bool sb, .int .u8 n, .bool sa, .bool false, .string c] w fun e w' => e = .returned (.bool true) ∧ Below w.heap.size w w' := by
  have d1 : decide ((65536 : Int) < (a.size : Int)) = false := decide_eq_false (by omega)
  have d2 : decide ((65536 : Int) < (b.size : Int)) = false := decide_eq_false (by omega)
  have d3 : decide ((65536 : Int) < (c.size : Int)) = false := decide_eq_false (by omega)
  have hnz : (n == 0) = false := beq_eq_false_iff_ne.2 (by omega)
  go_enter Try.func9, Try.ntmps9
  go_wp2_with (first | (go_at_call 30; refine (bytes_yes _ _ _ _ _ _ _ _ h).mono ?_; rintro e w' ⟨rfl, rfl⟩) | (go_at_call 25; refine (nameOK a true _ h1 hN).mono ?_; rintro e w' ⟨rfl, rfl⟩) | (go_at_call 26; refine (attrOK_some b true _ h2 hb0 hK).mono ?_; rintro e w' ⟨rfl, rfl⟩) | (go_at_call 27; refine (hasByte c 34 false _ h3 hV).mono ?_; rintro e w' ⟨rfl, rfl⟩))
  go_ret
  exact ⟨rfl, Below.refl _ _⟩

set_option maxRecDepth 100000 in
set_option maxHeartbeats 3200000 in
theorem main_false (a b c : ByteArray) (sb sa : Bool) (eq : Nat) (w : World) (h : a.size + b.size + c.size ≤ 1048576) (h1 : a.size ≤ 65536) (h2 : b.size ≤ 65536) (h3 : c.size ≤ 65536) (n1 : 1 ≤ eq) (n2 : eq ≤ 255) (hN : NIs true a) (hb0 : 0 < b.size) (hK : KIs true b) (hV : VIs true c 34) : Calls Try.prog 9 #[.string a, .string b, .bool sb, .int .u8 (eq : Int), .bool sa, .bool false, .string c] w fun e w' => e = .returned (.bool true) ∧ Below w.heap.size w w' := by
  have d1 : decide ((65536 : Int) < (a.size : Int)) = false := decide_eq_false (by omega)
  have d2 : decide ((65536 : Int) < (b.size : Int)) = false := decide_eq_false (by omega)
  have d3 : decide ((65536 : Int) < (c.size : Int)) = false := decide_eq_false (by omega)
  have hnz : ((eq : Int) == 0) = false := beq_eq_false_iff_ne.2 (by omega)
  have hLne : lst b ≠ [] := by intro e; have := Num.lst_length b; rw [e] at this; simp at this; omega
  obtain ⟨last, hlast⟩ : ∃ last, last = (b[b.size - 1].toNat : Int) := ⟨_, rfl⟩
  obtain ⟨hl1, hl2, hl3⟩ := text_len (lst a) (lst b) (lst c) sb eq sa 34 (by rw [Num.lst_length]; exact h1) (by rw [Num.lst_length]; exact h2) (by rw [Num.lst_length]; exact h3) n2
  have HMID : Hid (Mid sb eq sa 34 (front (lst a) (lst b) sb eq sa).length last (text (lst a) (lst b) sb eq sa 34 (lst c)) 0 m0) := start (lst a) (lst b) (lst c) sb eq sa 34 last (hN.1 rfl) (hK.1 rfl) hLne (by rw [lst_last b hb0, hlast]) n1 (by omega) (hV.1 rfl)
  have HRNG : Hid (∀ x ∈ text (lst a) (lst b) sb eq sa 34 (lst c), 0 ≤ x ∧ x ≤ 255) := text_rng (Num.lst_rng a) (Num.lst_rng b) (Num.lst_rng c) (by omega)
  have HLEN : Hid ((text (lst a) (lst b) sb eq sa 34 (lst c)).length ≤ 300000) := hl1
  have HNE : Hid (text (lst a) (lst b) sb eq sa 34 (lst c) ≠ []) := hl3
  have HLAST : Hid (last = (b[b.size - 1].toNat : Int)) := hlast
  have hot := openTag a b c sb sa eq 34 w h1 h2 h3 n2
  generalize (front (lst a) (lst b) sb eq sa).length = qi at hot HMID hl2
  clear hl1 hl3 hlast hLne
  go_enter Try.func9, Try.ntmps9
  go_wp2_with (first
    | (go_at_call 30; refine (bytes_yes _ _ _ _ _ _ _ _ h).mono ?_; rintro e w' ⟨rfl, rfl⟩)
    | (go_at_call 25; refine (nameOK a true _ h1 hN).mono ?_; rintro e w' ⟨rfl, rfl⟩)
    | (go_at_call 26; refine (attrOK_some b true _ h2 hb0 hK).mono ?_; rintro e w' ⟨rfl, rfl⟩)
    | (go_at_call 27; refine (hasByte c 34 true _ h3 hV).mono ?_; rintro e w' ⟨rfl, rfl⟩)
    | (go_at_call 28; refine hot.mono ?_; rintro e w1 ⟨v1, rfl, hO1, hb1⟩; clear hot; have hB1 := hb1.size; obtain ⟨L, n, g, cc, hv1, hg, hS⟩ := pack hO1 HNE.out HMID.out HRNG.out HLEN.out; clear hO1; subst hv1)
    | (go_at_call 21; refine (Tag.new_any _).mono ?_; rintro e w5 ⟨rfl, hb5⟩)
    | (refine wpList_store_row rfl 45 (.tmp 18) (.tmp 74) rfl _ Tag.fresh rfl rfl 45 _ (heap_alloc_new _ _) Tag.size45 rfl Tag.fresh_one ?_))
  have hB5 := hb5.size
  have hn := hS.small
  clear HMID HRNG HLEN HNE hN hK hV
  go_loopw [19] (fun iv wr => ∃ (k : Nat) (m : M), iv = .int .i64 k ∧ k ≤ n ∧ Box w5.heap.size m wr ∧ Open.Good k m ∧ Mid sb eq sa 34 qi last L k m ∧ Below w1.heap.size w1 wr) (fun iv _ => n - (intOf iv).toNat)
  case atStart => exact ⟨0, m0, rfl, Nat.zero_le _, Tag.fresh_box (Tag.heap_setRow_alloc _ _ _ _), good_zero, hS.mid, Tag.setRow_below (hb5.alloc hB5 _) _ hB5 _⟩
  case round =>
    obtain ⟨k, m, rfl, hk, hbox, hgood, hmid, hbel⟩ := hrel
    have hfit := hgood.fit (by omega)
    by_cases hlt : k < n
    · have hkL : k < L.length := by rw [hS.len]; exact hlt
      have hc : wr.cell? ⟨g, k, none⟩ = some (.int .u8 L[k]) := (hbel.cell hg).trans (hS.cells k hkL)
      obtain ⟨c0, c1⟩ := hS.rng L[k] (List.getElem_mem hkL)
      obtain ⟨hr, hmid'⟩ := mid_on hmid hkL
      have hgood' := step_good hgood L[k] ((k : Int) + 1) false c0 c1
      obtain ⟨cb, hcb⟩ : ∃ cb, cb = L[k] := ⟨_, rfl⟩
      rw [← hcb] at hc c0 c1 hr hmid' hgood'
      clear hcb
      go_wp2_with (go_at_call 22; refine (Tag.zzTagStep w5.heap.size m _ _ _ _ hbox hfit c0 c1).mono ?_; rintro e w6 ⟨rfl, hb6, ho6⟩)
      go_roundw
      case rel => exact ⟨k + 1, _, by go_num, by omega, hb6, hgood', hmid', hbel.trans (ho6.below hB5)⟩
      case measure => simp [intOf]; omega
    · have hat := mid_end hmid (by rw [hS.len]; exact hlt)
      clear hmid hgood hfit
      have hfin : ∀ w6 : World, Only w5.heap.size wr w6 → Below w.heap.size w w6 := fun w6 ho6 => hb1.trans ((hbel.mono hB1).trans (ho6.below (by omega)))
      have HFIN : Hid (∀ w6 : World, Only w5.heap.size wr w6 → Below w.heap.size w w6) := hfin
      clear hfin
      have hidx : (0 : Int) ≤ (b.size : Int) - 1 := by omega
      have hti : ((b.size : Int) - 1).toNat = b.size - 1 := by omega
      have hlast : (b[b.size - 1].toNat : Int) = last := HLAST.out.symm
      have hp : ((qi : Int) + 1 + 1 == (qi : Int) + 2) = true := beq_iff_eq.2 (by omega)
      have hyes : (m.quotedAfter = true ∨ 1 < m.equals ∨ m.spaced = true ∨ m.nameQuote = true) → Calls Try.prog 29 #[.pointer (some ⟨w5.heap.size, 0, none⟩)] wr fun e w' => e = .returned (.tuple #[.int .i64 ((qi : Int) + 1 + 1), .bool true]) ∧ Only w5.heap.size wr w' := fun hy => zzUnq_yes w5.heap.size m wr hbox hat.tag hat.reread ((qi : Int) + 1) hat.quotedAt (by omega) (by omega) (by rw [hat.equals]; omega) (by rw [hat.equals]; omega) hy
      have hnq := hat.nameQuote
      have hspd := hat.spaced
      have haft := hat.quotedAfter
      have heqs := hat.equals
      by_cases l39 : last = 39
      · have e39 : (last == 39) = true := beq_iff_eq.2 l39
        have hq39 : Hid (Tag.q last = true) := by rw [l39]; rfl
        clear l39
        cases sb with
        | true =>
          have hc := hyes (Or.inr (Or.inr (Or.inl hspd)))
          clear hat hyes hnq hspd haft heqs
          go_wp2_with (go_at_call 29; refine hc.mono ?_; rintro e w6 ⟨rfl, ho6⟩)
          go_ret
          exact ⟨rfl, HFIN.out _ ho6⟩
        | false =>
          cases sa with
          | true =>
            have hc := hyes (Or.inl haft)
            clear hat hyes hnq hspd haft heqs
            go_wp2_with (go_at_call 29; refine hc.mono ?_; rintro e w6 ⟨rfl, ho6⟩)
            go_ret
            exact ⟨rfl, HFIN.out _ ho6⟩
          | false =>
            by_cases hgt : 1 < (eq : Int)
            · have hc := hyes (Or.inr (Or.inl (by rw [heqs]; exact hgt)))
              have hgt2 : decide (1 < (eq : Int)) = true := decide_eq_true hgt
              clear hat hyes hnq hspd haft heqs
              go_wp2_with (go_at_call 29; refine hc.mono ?_; rintro e w6 ⟨rfl, ho6⟩)
              go_ret
              exact ⟨rfl, HFIN.out _ ho6⟩
            · have hc := hyes (Or.inr (Or.inr (Or.inr (by rw [hnq]; exact hq39.out))))
              have hgt2 : decide (1 < (eq : Int)) = false := decide_eq_false hgt
              clear hat hyes hnq hspd haft heqs
              go_wp2_with (go_at_call 29; refine hc.mono ?_; rintro e w6 ⟨rfl, ho6⟩)
              go_ret
              exact ⟨rfl, HFIN.out _ ho6⟩
      have e39 : (last == 39) = false := beq_eq_false_iff_ne.2 l39
      by_cases l34 : last = 34
      · have e34 : (last == 34) = true := beq_iff_eq.2 l34
        have hq34 : Hid (Tag.q last = true) := by rw [l34]; rfl
        clear l34 l39
        cases sb with
        | true =>
          have hc := hyes (Or.inr (Or.inr (Or.inl hspd)))
          clear hat hyes hnq hspd haft heqs
          go_wp2_with (go_at_call 29; refine hc.mono ?_; rintro e w6 ⟨rfl, ho6⟩)
          go_ret
          exact ⟨rfl, HFIN.out _ ho6⟩
        | false =>
          cases sa with
          | true =>
            have hc := hyes (Or.inl haft)
            clear hat hyes hnq hspd haft heqs
            go_wp2_with (go_at_call 29; refine hc.mono ?_; rintro e w6 ⟨rfl, ho6⟩)
            go_ret
            exact ⟨rfl, HFIN.out _ ho6⟩
          | false =>
            by_cases hgt : 1 < (eq : Int)
            · have hc := hyes (Or.inr (Or.inl (by rw [heqs]; exact hgt)))
              have hgt2 : decide (1 < (eq : Int)) = true := decide_eq_true hgt
              clear hat hyes hnq hspd haft heqs
              go_wp2_with (go_at_call 29; refine hc.mono ?_; rintro e w6 ⟨rfl, ho6⟩)
              go_ret
              exact ⟨rfl, HFIN.out _ ho6⟩
            · have hc := hyes (Or.inr (Or.inr (Or.inr (by rw [hnq]; exact hq34.out))))
              have hgt2 : decide (1 < (eq : Int)) = false := decide_eq_false hgt
              clear hat hyes hnq hspd haft heqs
              go_wp2_with (go_at_call 29; refine hc.mono ?_; rintro e w6 ⟨rfl, ho6⟩)
              go_ret
              exact ⟨rfl, HFIN.out _ ho6⟩
      have e34 : (last == 34) = false := beq_eq_false_iff_ne.2 l34
      cases sb with
      | true =>
        have hc := hyes (Or.inr (Or.inr (Or.inl hspd)))
        clear hat hyes hnq hspd haft heqs
        go_wp2_with (go_at_call 29; refine hc.mono ?_; rintro e w6 ⟨rfl, ho6⟩)
        go_ret
        exact ⟨rfl, HFIN.out _ ho6⟩
      | false =>
        cases sa with
        | true =>
          have hc := hyes (Or.inl haft)
          clear hat hyes hnq hspd haft heqs
          go_wp2_with (go_at_call 29; refine hc.mono ?_; rintro e w6 ⟨rfl, ho6⟩)
          go_ret
          exact ⟨rfl, HFIN.out _ ho6⟩
        | false =>
          by_cases hgt : 1 < (eq : Int)
          · have hc := hyes (Or.inr (Or.inl (by rw [heqs]; exact hgt)))
            have hgt2 : decide (1 < (eq : Int)) = true := decide_eq_true hgt
            clear hat hyes hnq hspd haft heqs
            go_wp2_with (go_at_call 29; refine hc.mono ?_; rintro e w6 ⟨rfl, ho6⟩)
            go_ret
            exact ⟨rfl, HFIN.out _ ho6⟩
          · have hc := zzUnq_no w5.heap.size m wr hbox hat.tag hat.reread haft (by rw [heqs]; omega) hspd (by rw [hnq]; exact Tag.q_no l39 l34)
            have hgt2 : decide (1 < (eq : Int)) = false := decide_eq_false hgt
            clear hat hyes hnq hspd haft heqs
            clear l39 l34
            go_wp2_with (go_at_call 29; refine hc.mono ?_; rintro e w6 ⟨rfl, ho6⟩)
            go_ret
            exact ⟨rfl, HFIN.out _ ho6⟩

set_option maxRecDepth 100000 in
theorem bad_name_true (a b c : ByteArray) (sb sa : Bool) (n : Int) (w : World) (h : a.size + b.size + c.size ≤ 1048576) (h1 : a.size ≤ 65536) (h2 : b.size ≤ 65536) (h3 : c.size ≤ 65536) (n1 : 1 ≤ n) (n2 : n ≤ 255) (hN : NIs false a) : Calls Try.prog 9 #[.string a, .string b, .bool sb, .int .u8 n, .bool sa, .bool true, .string c] w fun e w' => e = .returned (.bool true) ∧ Below w.heap.size w w' := by
  have d1 : decide ((65536 : Int) < (a.size : Int)) = false := decide_eq_false (by omega)
  have d2 : decide ((65536 : Int) < (b.size : Int)) = false := decide_eq_false (by omega)
  have d3 : decide ((65536 : Int) < (c.size : Int)) = false := decide_eq_false (by omega)
  have hnz : (n == 0) = false := beq_eq_false_iff_ne.2 (by omega)
  go_enter Try.func9, Try.ntmps9
  go_wp2_with (first | (go_at_call 30; refine (bytes_yes _ _ _ _ _ _ _ _ h).mono ?_; rintro e w' ⟨rfl, rfl⟩) | (go_at_call 25; refine (nameOK a false _ h1 hN).mono ?_; rintro e w' ⟨rfl, rfl⟩))
  go_ret
  exact ⟨rfl, Below.refl _ _⟩

set_option maxRecDepth 100000 in
theorem bad_empty_true (a b c : ByteArray) (sb sa : Bool) (n : Int) (w : World) (h : a.size + b.size + c.size ≤ 1048576) (h1 : a.size ≤ 65536) (h2 : b.size ≤ 65536) (h3 : c.size ≤ 65536) (n1 : 1 ≤ n) (n2 : n ≤ 255) (hN : NIs true a) (hb0 : b.size = 0) : Calls Try.prog 9 #[.string a, .string b, .bool sb, .int .u8 n, .bool sa, .bool true, .string c] w fun e w' => e = .returned (.bool true) ∧ Below w.heap.size w w' := by
  have d1 : decide ((65536 : Int) < (a.size : Int)) = false := decide_eq_false (by omega)
  have d2 : decide ((65536 : Int) < (b.size : Int)) = false := decide_eq_false (by omega)
  have d3 : decide ((65536 : Int) < (c.size : Int)) = false := decide_eq_false (by omega)
  have hnz : (n == 0) = false := beq_eq_false_iff_ne.2 (by omega)
  have HB : Hid (b.size = 0) := hb0
  clear hb0
  go_enter Try.func9, Try.ntmps9
  go_wp2_with (first | (go_at_call 30; refine (bytes_yes _ _ _ _ _ _ _ _ h).mono ?_; rintro e w' ⟨rfl, rfl⟩) | (go_at_call 25; refine (nameOK a true _ h1 hN).mono ?_; rintro e w' ⟨rfl, rfl⟩) | (go_at_call 26; refine (attrOK_empty b _ HB.out).mono ?_; rintro e w' ⟨rfl, rfl⟩))
  go_ret
  exact ⟨rfl, Below.refl _ _⟩

set_option maxRecDepth 100000 in
theorem bad_key_true (a b c : ByteArray) (sb sa : Bool) (n : Int) (w : World) (h : a.size + b.size + c.size ≤ 1048576) (h1 : a.size ≤ 65536) (h2 : b.size ≤ 65536) (h3 : c.size ≤ 65536) (n1 : 1 ≤ n) (n2 : n ≤ 255) (hN : NIs true a) (hb0 : 0 < b.size) (hK : KIs false b) : Calls Try.prog 9 #[.string a, .string b, .bool sb, .int .u8 n, .bool sa, .bool true, .string c] w fun e w' => e = .returned (.bool true) ∧ Below w.heap.size w w' := by
  have d1 : decide ((65536 : Int) < (a.size : Int)) = false := decide_eq_false (by omega)
  have d2 : decide ((65536 : Int) < (b.size : Int)) = false := decide_eq_false (by omega)
  have d3 : decide ((65536 : Int) < (c.size : Int)) = false := decide_eq_false (by omega)
  have hnz : (n == 0) = false := beq_eq_false_iff_ne.2 (by omega)
  go_enter Try.func9, Try.ntmps9
  go_wp2_with (first | (go_at_call 30; refine (bytes_yes _ _ _ _ _ _ _ _ h).mono ?_; rintro e w' ⟨rfl, rfl⟩) | (go_at_call 25; refine (nameOK a true _ h1 hN).mono ?_; rintro e w' ⟨rfl, rfl⟩) | (go_at_call 26; refine (attrOK_some b false _ h2 hb0 hK).mono ?_; rintro e w' ⟨rfl, rfl⟩))
  go_ret
  exact ⟨rfl, Below.refl _ _⟩

set_option maxRecDepth 100000 in
theorem bad_val_true (a b c : ByteArray) (sb sa : Bool) (n : Int) (w : World) (h : a.size + b.size + c.size ≤ 1048576) (h1 : a.size ≤ 65536) (h2 : b.size ≤ 65536) (h3 : c.size ≤ 65536) (n1 : 1 ≤ n) (n2 : n ≤ 255) (hN : NIs true a) (hb0 : 0 < b.size) (hK : KIs true b) (hV : VIs false c 39) : Calls Try.prog 9 #[.string a, .string b, .bool sb, .int .u8 n, .bool sa, .bool true, .string c] w fun e w' => e = .returned (.bool true) ∧ Below w.heap.size w w' := by
  have d1 : decide ((65536 : Int) < (a.size : Int)) = false := decide_eq_false (by omega)
  have d2 : decide ((65536 : Int) < (b.size : Int)) = false := decide_eq_false (by omega)
  have d3 : decide ((65536 : Int) < (c.size : Int)) = false := decide_eq_false (by omega)
  have hnz : (n == 0) = false := beq_eq_false_iff_ne.2 (by omega)
  go_enter Try.func9, Try.ntmps9
  go_wp2_with (first | (go_at_call 30; refine (bytes_yes _ _ _ _ _ _ _ _ h).mono ?_; rintro e w' ⟨rfl, rfl⟩) | (go_at_call 25; refine (nameOK a true _ h1 hN).mono ?_; rintro e w' ⟨rfl, rfl⟩) | (go_at_call 26; refine (attrOK_some b true _ h2 hb0 hK).mono ?_; rintro e w' ⟨rfl, rfl⟩) | (go_at_call 27; refine (hasByte c 39 false _ h3 hV).mono ?_; rintro e w' ⟨rfl, rfl⟩))
  go_ret
  exact ⟨rfl, Below.refl _ _⟩

set_option maxRecDepth 100000 in
set_option maxHeartbeats 3200000 in
theorem main_true (a b c : ByteArray) (sb sa : Bool) (eq : Nat) (w : World) (h : a.size + b.size + c.size ≤ 1048576) (h1 : a.size ≤ 65536) (h2 : b.size ≤ 65536) (h3 : c.size ≤ 65536) (n1 : 1 ≤ eq) (n2 : eq ≤ 255) (hN : NIs true a) (hb0 : 0 < b.size) (hK : KIs true b) (hV : VIs true c 39) : Calls Try.prog 9 #[.string a, .string b, .bool sb, .int .u8 (eq : Int), .bool sa, .bool true, .string c] w fun e w' => e = .returned (.bool true) ∧ Below w.heap.size w w' := by
  have d1 : decide ((65536 : Int) < (a.size : Int)) = false := decide_eq_false (by omega)
  have d2 : decide ((65536 : Int) < (b.size : Int)) = false := decide_eq_false (by omega)
  have d3 : decide ((65536 : Int) < (c.size : Int)) = false := decide_eq_false (by omega)
  have hnz : ((eq : Int) == 0) = false := beq_eq_false_iff_ne.2 (by omega)
  have hLne : lst b ≠ [] := by intro e; have := Num.lst_length b; rw [e] at this; simp at this; omega
  obtain ⟨last, hlast⟩ : ∃ last, last = (b[b.size - 1].toNat : Int) := ⟨_, rfl⟩
  obtain ⟨hl1, hl2, hl3⟩ := text_len (lst a) (lst b) (lst c) sb eq sa 39 (by rw [Num.lst_length]; exact h1) (by rw [Num.lst_length]; exact h2) (by rw [Num.lst_length]; exact h3) n2
  have HMID : Hid (Mid sb eq sa 39 (front (lst a) (lst b) sb eq sa).length last (text (lst a) (lst b) sb eq sa 39 (lst c)) 0 m0) := start (lst a) (lst b) (lst c) sb eq sa 39 last (hN.1 rfl) (hK.1 rfl) hLne (by rw [lst_last b hb0, hlast]) n1 (by omega) (hV.1 rfl)
  have HRNG : Hid (∀ x ∈ text (lst a) (lst b) sb eq sa 39 (lst c), 0 ≤ x ∧ x ≤ 255) := text_rng (Num.lst_rng a) (Num.lst_rng b) (Num.lst_rng c) (by omega)
  have HLEN : Hid ((text (lst a) (lst b) sb eq sa 39 (lst c)).length ≤ 300000) := hl1
  have HNE : Hid (text (lst a) (lst b) sb eq sa 39 (lst c) ≠ []) := hl3
  have HLAST : Hid (last = (b[b.size - 1].toNat : Int)) := hlast
  have hot := openTag a b c sb sa eq 39 w h1 h2 h3 n2
  generalize (front (lst a) (lst b) sb eq sa).length = qi at hot HMID hl2
  clear hl1 hl3 hlast hLne
  go_enter Try.func9, Try.ntmps9
  go_wp2_with (first
    | (go_at_call 30; refine (bytes_yes _ _ _ _ _ _ _ _ h).mono ?_; rintro e w' ⟨rfl, rfl⟩)
    | (go_at_call 25; refine (nameOK a true _ h1 hN).mono ?_; rintro e w' ⟨rfl, rfl⟩)
    | (go_at_call 26; refine (attrOK_some b true _ h2 hb0 hK).mono ?_; rintro e w' ⟨rfl, rfl⟩)
    | (go_at_call 27; refine (hasByte c 39 true _ h3 hV).mono ?_; rintro e w' ⟨rfl, rfl⟩)
    | (go_at_call 28; refine hot.mono ?_; rintro e w1 ⟨v1, rfl, hO1, hb1⟩; clear hot; have hB1 := hb1.size; obtain ⟨L, n, g, cc, hv1, hg, hS⟩ := pack hO1 HNE.out HMID.out HRNG.out HLEN.out; clear hO1; subst hv1)
    | (go_at_call 21; refine (Tag.new_any _).mono ?_; rintro e w5 ⟨rfl, hb5⟩)
    | (refine wpList_store_row rfl 45 (.tmp 18) (.tmp 74) rfl _ Tag.fresh rfl rfl 45 _ (heap_alloc_new _ _) Tag.size45 rfl Tag.fresh_one ?_))
  have hB5 := hb5.size
  have hn := hS.small
  clear HMID HRNG HLEN HNE hN hK hV
  go_loopw [19] (fun iv wr => ∃ (k : Nat) (m : M), iv = .int .i64 k ∧ k ≤ n ∧ Box w5.heap.size m wr ∧ Open.Good k m ∧ Mid sb eq sa 39 qi last L k m ∧ Below w1.heap.size w1 wr) (fun iv _ => n - (intOf iv).toNat)
  case atStart => exact ⟨0, m0, rfl, Nat.zero_le _, Tag.fresh_box (Tag.heap_setRow_alloc _ _ _ _), good_zero, hS.mid, Tag.setRow_below (hb5.alloc hB5 _) _ hB5 _⟩
  case round =>
    obtain ⟨k, m, rfl, hk, hbox, hgood, hmid, hbel⟩ := hrel
    have hfit := hgood.fit (by omega)
    by_cases hlt : k < n
    · have hkL : k < L.length := by rw [hS.len]; exact hlt
      have hc : wr.cell? ⟨g, k, none⟩ = some (.int .u8 L[k]) := (hbel.cell hg).trans (hS.cells k hkL)
      obtain ⟨c0, c1⟩ := hS.rng L[k] (List.getElem_mem hkL)
      obtain ⟨hr, hmid'⟩ := mid_on hmid hkL
      have hgood' := step_good hgood L[k] ((k : Int) + 1) false c0 c1
      obtain ⟨cb, hcb⟩ : ∃ cb, cb = L[k] := ⟨_, rfl⟩
      rw [← hcb] at hc c0 c1 hr hmid' hgood'
      clear hcb
      go_wp2_with (go_at_call 22; refine (Tag.zzTagStep w5.heap.size m _ _ _ _ hbox hfit c0 c1).mono ?_; rintro e w6 ⟨rfl, hb6, ho6⟩)
      go_roundw
      case rel => exact ⟨k + 1, _, by go_num, by omega, hb6, hgood', hmid', hbel.trans (ho6.below hB5)⟩
      case measure => simp [intOf]; omega
    · have hat := mid_end hmid (by rw [hS.len]; exact hlt)
      clear hmid hgood hfit
      have hfin : ∀ w6 : World, Only w5.heap.size wr w6 → Below w.heap.size w w6 := fun w6 ho6 => hb1.trans ((hbel.mono hB1).trans (ho6.below (by omega)))
      have HFIN : Hid (∀ w6 : World, Only w5.heap.size wr w6 → Below w.heap.size w w6) := hfin
      clear hfin
      have hidx : (0 : Int) ≤ (b.size : Int) - 1 := by omega
      have hti : ((b.size : Int) - 1).toNat = b.size - 1 := by omega
      have hlast : (b[b.size - 1].toNat : Int) = last := HLAST.out.symm
      have hp : ((qi : Int) + 1 + 1 == (qi : Int) + 2) = true := beq_iff_eq.2 (by omega)
      have hyes : (m.quotedAfter = true ∨ 1 < m.equals ∨ m.spaced = true ∨ m.nameQuote = true) → Calls Try.prog 29 #[.pointer (some ⟨w5.heap.size, 0, none⟩)] wr fun e w' => e = .returned (.tuple #[.int .i64 ((qi : Int) + 1 + 1), .bool true]) ∧ Only w5.heap.size wr w' := fun hy => zzUnq_yes w5.heap.size m wr hbox hat.tag hat.reread ((qi : Int) + 1) hat.quotedAt (by omega) (by omega) (by rw [hat.equals]; omega) (by rw [hat.equals]; omega) hy
      have hnq := hat.nameQuote
      have hspd := hat.spaced
      have haft := hat.quotedAfter
      have heqs := hat.equals
      by_cases l39 : last = 39
      · have e39 : (last == 39) = true := beq_iff_eq.2 l39
        have hq39 : Hid (Tag.q last = true) := by rw [l39]; rfl
        clear l39
        cases sb with
        | true =>
          have hc := hyes (Or.inr (Or.inr (Or.inl hspd)))
          clear hat hyes hnq hspd haft heqs
          go_wp2_with (go_at_call 29; refine hc.mono ?_; rintro e w6 ⟨rfl, ho6⟩)
          go_ret
          exact ⟨rfl, HFIN.out _ ho6⟩
        | false =>
          cases sa with
          | true =>
            have hc := hyes (Or.inl haft)
            clear hat hyes hnq hspd haft heqs
            go_wp2_with (go_at_call 29; refine hc.mono ?_; rintro e w6 ⟨rfl, ho6⟩)
            go_ret
            exact ⟨rfl, HFIN.out _ ho6⟩
          | false =>
            by_cases hgt : 1 < (eq : Int)
            · have hc := hyes (Or.inr (Or.inl (by rw [heqs]; exact hgt)))
              have hgt2 : decide (1 < (eq : Int)) = true := decide_eq_true hgt
              clear hat hyes hnq hspd haft heqs
              go_wp2_with (go_at_call 29; refine hc.mono ?_; rintro e w6 ⟨rfl, ho6⟩)
              go_ret
              exact ⟨rfl, HFIN.out _ ho6⟩
            · have hc := hyes (Or.inr (Or.inr (Or.inr (by rw [hnq]; exact hq39.out))))
              have hgt2 : decide (1 < (eq : Int)) = false := decide_eq_false hgt
              clear hat hyes hnq hspd haft heqs
              go_wp2_with (go_at_call 29; refine hc.mono ?_; rintro e w6 ⟨rfl, ho6⟩)
              go_ret
              exact ⟨rfl, HFIN.out _ ho6⟩
      have e39 : (last == 39) = false := beq_eq_false_iff_ne.2 l39
      by_cases l34 : last = 34
      · have e34 : (last == 34) = true := beq_iff_eq.2 l34
        have hq34 : Hid (Tag.q last = true) := by rw [l34]; rfl
        clear l34 l39
        cases sb with
        | true =>
          have hc := hyes (Or.inr (Or.inr (Or.inl hspd)))
          clear hat hyes hnq hspd haft heqs
          go_wp2_with (go_at_call 29; refine hc.mono ?_; rintro e w6 ⟨rfl, ho6⟩)
          go_ret
          exact ⟨rfl, HFIN.out _ ho6⟩
        | false =>
          cases sa with
          | true =>
            have hc := hyes (Or.inl haft)
            clear hat hyes hnq hspd haft heqs
            go_wp2_with (go_at_call 29; refine hc.mono ?_; rintro e w6 ⟨rfl, ho6⟩)
            go_ret
            exact ⟨rfl, HFIN.out _ ho6⟩
          | false =>
            by_cases hgt : 1 < (eq : Int)
            · have hc := hyes (Or.inr (Or.inl (by rw [heqs]; exact hgt)))
              have hgt2 : decide (1 < (eq : Int)) = true := decide_eq_true hgt
              clear hat hyes hnq hspd haft heqs
              go_wp2_with (go_at_call 29; refine hc.mono ?_; rintro e w6 ⟨rfl, ho6⟩)
              go_ret
              exact ⟨rfl, HFIN.out _ ho6⟩
            · have hc := hyes (Or.inr (Or.inr (Or.inr (by rw [hnq]; exact hq34.out))))
              have hgt2 : decide (1 < (eq : Int)) = false := decide_eq_false hgt
              clear hat hyes hnq hspd haft heqs
              go_wp2_with (go_at_call 29; refine hc.mono ?_; rintro e w6 ⟨rfl, ho6⟩)
              go_ret
              exact ⟨rfl, HFIN.out _ ho6⟩
      have e34 : (last == 34) = false := beq_eq_false_iff_ne.2 l34
      cases sb with
      | true =>
        have hc := hyes (Or.inr (Or.inr (Or.inl hspd)))
        clear hat hyes hnq hspd haft heqs
        go_wp2_with (go_at_call 29; refine hc.mono ?_; rintro e w6 ⟨rfl, ho6⟩)
        go_ret
        exact ⟨rfl, HFIN.out _ ho6⟩
      | false =>
        cases sa with
        | true =>
          have hc := hyes (Or.inl haft)
          clear hat hyes hnq hspd haft heqs
          go_wp2_with (go_at_call 29; refine hc.mono ?_; rintro e w6 ⟨rfl, ho6⟩)
          go_ret
          exact ⟨rfl, HFIN.out _ ho6⟩
        | false =>
          by_cases hgt : 1 < (eq : Int)
          · have hc := hyes (Or.inr (Or.inl (by rw [heqs]; exact hgt)))
            have hgt2 : decide (1 < (eq : Int)) = true := decide_eq_true hgt
            clear hat hyes hnq hspd haft heqs
            go_wp2_with (go_at_call 29; refine hc.mono ?_; rintro e w6 ⟨rfl, ho6⟩)
            go_ret
            exact ⟨rfl, HFIN.out _ ho6⟩
          · have hc := zzUnq_no w5.heap.size m wr hbox hat.tag hat.reread haft (by rw [heqs]; omega) hspd (by rw [hnq]; exact Tag.q_no l39 l34)
            have hgt2 : decide (1 < (eq : Int)) = false := decide_eq_false hgt
            clear hat hyes hnq hspd haft heqs
            clear l39 l34
            go_wp2_with (go_at_call 29; refine hc.mono ?_; rintro e w6 ⟨rfl, ho6⟩)
            go_ret
            exact ⟨rfl, HFIN.out _ ho6⟩

end UnqLaw
end Go.Proofs.Qxb6000730a

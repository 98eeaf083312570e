/-
  tagStep and ZZTagStep: what they make of a byte is 'step'.
-/
import Derived.Test.Qxb6000730aTagA
import Derived.Test.Qxb6000730aTagB
import Derived.Test.Qxb6000730aTagC
import Derived.Test.Qxb6000730aTagD
namespace Go.Proofs.Qxb6000730a
open Go.ChangeShapes Go.WideShapes Go.ChangeAt Go.RowKit
namespace Tag
set_option linter.unusedVariables false
set_option linter.unusedSimpArgs false

/-- What a call of tagStep (number f: 37, or ZZTagStep: 22) comes to. -/
def Steps (f : Nat) (b : Nat) (m : M) (c held : Int) (long : Bool) (w : World) (r : M × Int) : Prop :=
  Calls Try.prog f #[.pointer (some ⟨b, 0, none⟩), .int .u8 c, .int .i64 held, .bool long] w fun e w' => e = .returned (.int .u8 r.2) ∧ Box b r.1 w' ∧ Only b w w'

theorem ne {a b : Int} (h : ¬ a = b) : (a == b) = false := beq_eq_false_iff_ne.2 h
theorem q_no {c : Int} (h1 : ¬ c = 39) (h2 : ¬ c = 34) : q c = false := by simp [q, h1, h2]
theorem fin {b : Nat} {m : M} {c held : Int} {long : Bool} {w : World} {m' : M} {r : Int} {s : M × Int} (e : s = (m', r)) (h : Calls Try.prog 37 #[.pointer (some ⟨b, 0, none⟩), .int .u8 c, .int .i64 held, .bool long] w fun e w' => e = .returned (.int .u8 r) ∧ Box b m' w' ∧ Only b w w') : Steps 37 b m c held long w s := by rw [e]; exact h

theorem sp39 : Leaf.sp 39 = false := by decide
theorem sp34 : Leaf.sp 34 = false := by decide
theorem sp47 : Leaf.sp 47 = false := by decide
theorem sp61 : Leaf.sp 61 = false := by decide

theorem st0 (b : Nat) (m : M) (c held : Int) (long : Bool) (w : World) (hb : Box b m w) (ht : m.tag = 0) (h0 : 0 ≤ c) (h1 : c ≤ 255) (l0 : 0 ≤ m.last) (l1 : m.last ≤ 255) (hn : 0 ≤ m.named) (hm : m.named ≤ 1000000) (q0 : 0 ≤ m.equals) (q1 : m.equals ≤ 1000000) : Steps 37 b m c held long w (step m c held long) := by
  by_cases n9 : c = 9
  · subst n9; exact fin (by simp [step, ht, q]) (s0_9 b m held long w hb ht)
  by_cases n10 : c = 10
  · subst n10; exact fin (by simp [step, ht, q]) (s0_10 b m held long w hb ht)
  by_cases n13 : c = 13
  · subst n13; exact fin (by simp [step, ht, q]) (s0_13 b m held long w hb ht)
  by_cases n12 : c = 12
  · subst n12; exact fin (by simp [step, ht, q]) (s0_12 b m held long w hb ht)
  by_cases n32 : c = 32
  · subst n32; exact fin (by simp [step, ht, q]) (s0_32 b m held long w hb ht)
  by_cases n47 : c = 47
  · subst n47; exact fin (by simp [step, ht, q]) (s0_47 b m held long w hb ht)
  by_cases n62 : c = 62
  · subst n62; exact fin (by simp [step, ht, q]) (s0_62 b m held long w hb ht)
  by_cases nz : c = 0
  · subst nz
    by_cases a : m.last = 39
    · exact fin (by simp [step, ht, a]) (s0_nul_39 b m held long w hb ht a)
    by_cases a2 : m.last = 34
    · exact fin (by simp [step, ht, a2]) (s0_nul_34 b m held long w hb ht a2)
    cases hs : Leaf.sp m.last with
    | true => exact fin (by simp [step, ht, hs]) (s0_nul_sp b m held long w hb ht l0 l1 (ne a) (ne a2) hs)
    | false =>
      cases long with
      | false => exact fin (by simp [step, ht, hs, a, a2]) (s0_nul_text b m held w hb ht l0 l1 (ne a) (ne a2) hs)
      | true => exact fin (by simp [step, ht, hs, a, a2]) (s0_nul_long b m held w hb ht l0 l1 (ne a) (ne a2) hs hn hm)
  exact fin (by simp [step, ht, n9, n10, n13, n12, n32, n47, n62, nz]) (s0_name b m c held long w hb ht h0 h1 (ne n9) (ne n10) (ne n13) (ne n12) (ne n32) (ne n47) (ne n62) (ne nz) hn hm)

theorem st1 (b : Nat) (m : M) (c held : Int) (long : Bool) (w : World) (hb : Box b m w) (ht : m.tag = 1) (h0 : 0 ≤ c) (h1 : c ≤ 255) (l0 : 0 ≤ m.last) (l1 : m.last ≤ 255) (hn : 0 ≤ m.named) (hm : m.named ≤ 1000000) (q0 : 0 ≤ m.equals) (q1 : m.equals ≤ 1000000) : Steps 37 b m c held long w (step m c held long) := by
  by_cases n47 : c = 47
  · subst n47; exact fin (by simp [step, ht, q]) (s1_47 b m held long w hb ht)
  by_cases n62 : c = 62
  · subst n62; exact fin (by simp [step, ht, q]) (s1_62 b m held long w hb ht)
  by_cases n39 : c = 39
  · subst n39; exact fin (by simp [step, ht, q, sp39]) (s1_39 b m held long w hb ht)
  by_cases n34 : c = 34
  · subst n34; exact fin (by simp [step, ht, q, sp34]) (s1_34 b m held long w hb ht)
  cases hs : Leaf.sp c with
  | true => exact fin (by simp [step, ht, hs, n47, n62]) (s1_sp b m c held long w hb ht h0 h1 (ne n47) (ne n62) hs)
  | false => exact fin (by simp [step, ht, hs, n47, n62, q_no n39 n34]) (s1_other b m c held long w hb ht h0 h1 (ne n47) (ne n62) (ne n39) (ne n34) hs)

theorem st2 (b : Nat) (m : M) (c held : Int) (long : Bool) (w : World) (hb : Box b m w) (ht : m.tag = 2) (h0 : 0 ≤ c) (h1 : c ≤ 255) (l0 : 0 ≤ m.last) (l1 : m.last ≤ 255) (hn : 0 ≤ m.named) (hm : m.named ≤ 1000000) (q0 : 0 ≤ m.equals) (q1 : m.equals ≤ 1000000) : Steps 37 b m c held long w (step m c held long) := by
  by_cases n62 : c = 62
  · subst n62; exact fin (by simp [step, ht, q]) (s2_62 b m held long w hb ht)
  by_cases n47 : c = 47
  · subst n47; exact fin (by simp [step, ht, q, sp47]) (s2_47 b m held long w hb ht)
  by_cases n39 : c = 39
  · subst n39; exact fin (by simp [step, ht, q, sp39]) (s2_39 b m held long w hb ht)
  by_cases n34 : c = 34
  · subst n34; exact fin (by simp [step, ht, q, sp34]) (s2_34 b m held long w hb ht)
  cases hs : Leaf.sp c with
  | true => exact fin (by simp [step, ht, hs, n62]) (s2_sp b m c held long w hb ht h0 h1 (ne n62) hs)
  | false => exact fin (by simp [step, ht, hs, n47, n62, q_no n39 n34]) (s2_other b m c held long w hb ht h0 h1 (ne n47) (ne n62) (ne n39) (ne n34) (by simpa using n47) hs)

theorem st3 (b : Nat) (m : M) (c held : Int) (long : Bool) (w : World) (hb : Box b m w) (ht : m.tag = 3) (h0 : 0 ≤ c) (h1 : c ≤ 255) (l0 : 0 ≤ m.last) (l1 : m.last ≤ 255) (hn : 0 ≤ m.named) (hm : m.named ≤ 1000000) (q0 : 0 ≤ m.equals) (q1 : m.equals ≤ 1000000) : Steps 37 b m c held long w (step m c held long) := by
  by_cases n61 : c = 61
  · subst n61; exact fin (by simp [step, ht]) (s3_61 b m held long w hb ht)
  by_cases n47 : c = 47
  · subst n47; exact fin (by simp [step, ht]) (s3_47 b m held long w hb ht)
  by_cases n62 : c = 62
  · subst n62; exact fin (by simp [step, ht]) (s3_62 b m held long w hb ht)
  by_cases n39 : c = 39
  · subst n39; exact fin (by cases m; simp only at ht; subst ht; simp [step, q, sp39]) (s3_39 b m held long w hb ht)
  by_cases n34 : c = 34
  · subst n34; exact fin (by cases m; simp only at ht; subst ht; simp [step, q, sp34]) (s3_34 b m held long w hb ht)
  cases hs : Leaf.sp c with
  | true => exact fin (by simp [step, ht, hs, n47, n62, n61]) (s3_sp b m c held long w hb ht h0 h1 (ne n61) (ne n47) (ne n62) hs)
  | false => exact fin (by cases m; simp only at ht; subst ht; simp [step, hs, n47, n62, n61, q_no n39 n34]) (s3_other b m c held long w hb ht h0 h1 (ne n61) (ne n47) (ne n62) (ne n39) (ne n34) hs)

theorem st4 (b : Nat) (m : M) (c held : Int) (long : Bool) (w : World) (hb : Box b m w) (ht : m.tag = 4) (h0 : 0 ≤ c) (h1 : c ≤ 255) (l0 : 0 ≤ m.last) (l1 : m.last ≤ 255) (hn : 0 ≤ m.named) (hm : m.named ≤ 1000000) (q0 : 0 ≤ m.equals) (q1 : m.equals ≤ 1000000) : Steps 37 b m c held long w (step m c held long) := by
  by_cases n61 : c = 61
  · subst n61; exact fin (by simp [step, ht]) (s4_61 b m held long w hb ht)
  by_cases n47 : c = 47
  · subst n47; exact fin (by simp [step, ht]) (s4_47 b m held long w hb ht)
  by_cases n62 : c = 62
  · subst n62; exact fin (by simp [step, ht]) (s4_62 b m held long w hb ht)
  by_cases n39 : c = 39
  · subst n39; exact fin (by simp [step, ht, q, sp39]) (s4_39 b m held long w hb ht)
  by_cases n34 : c = 34
  · subst n34; exact fin (by simp [step, ht, q, sp34]) (s4_34 b m held long w hb ht)
  cases hs : Leaf.sp c with
  | true => exact fin (by simp [step, ht, hs, n47, n62, n61]) (s4_sp b m c held long w hb ht h0 h1 (ne n61) (ne n47) (ne n62) hs)
  | false => exact fin (by simp [step, ht, hs, n47, n62, n61, q_no n39 n34]) (s4_other b m c held long w hb ht h0 h1 (ne n61) (ne n47) (ne n62) (ne n39) (ne n34) hs)

theorem st5 (b : Nat) (m : M) (c held : Int) (long : Bool) (w : World) (hb : Box b m w) (ht : m.tag = 5) (h0 : 0 ≤ c) (h1 : c ≤ 255) (l0 : 0 ≤ m.last) (l1 : m.last ≤ 255) (hn : 0 ≤ m.named) (hm : m.named ≤ 1000000) (q0 : 0 ≤ m.equals) (q1 : m.equals ≤ 1000000) : Steps 37 b m c held long w (step m c held long) := by
  by_cases n61 : c = 61
  · subst n61; exact fin (by simp [step, ht]) (s5_61 b m held long w hb ht q0 q1)
  by_cases n39 : c = 39
  · subst n39; exact fin (by simp [step, ht]) (s5_39 b m held long w hb ht)
  by_cases n34 : c = 34
  · subst n34; exact fin (by simp [step, ht]) (s5_34 b m held long w hb ht)
  by_cases n62 : c = 62
  · subst n62; exact fin (by simp [step, ht]) (s5_62 b m held long w hb ht)
  cases hs : Leaf.sp c with
  | true => exact fin (by simp [step, ht, hs, n62, n61, n39, n34]) (s5_sp b m c held long w hb ht h0 h1 (ne n61) (ne n39) (ne n34) (ne n62) hs)
  | false => exact fin (by simp [step, ht, hs, n62, n61, n39, n34]) (s5_other b m c held long w hb ht h0 h1 (ne n61) (ne n39) (ne n34) (ne n62) hs)

theorem st6 (b : Nat) (m : M) (c held : Int) (long : Bool) (w : World) (hb : Box b m w) (ht : m.tag = 6) (h0 : 0 ≤ c) (h1 : c ≤ 255) (l0 : 0 ≤ m.last) (l1 : m.last ≤ 255) (hn : 0 ≤ m.named) (hm : m.named ≤ 1000000) (q0 : 0 ≤ m.equals) (q1 : m.equals ≤ 1000000) : Steps 37 b m c held long w (step m c held long) := by
  by_cases n61 : c = 61
  · subst n61; exact fin (by simp [step, ht, sp61]) (s6_61 b m held long w hb ht)
  by_cases n39 : c = 39
  · subst n39; exact fin (by simp [step, ht]) (s6_39 b m held long w hb ht)
  by_cases n34 : c = 34
  · subst n34; exact fin (by simp [step, ht]) (s6_34 b m held long w hb ht)
  by_cases n62 : c = 62
  · subst n62; exact fin (by simp [step, ht]) (s6_62 b m held long w hb ht)
  cases hs : Leaf.sp c with
  | true => exact fin (by simp [step, ht, hs, n62, n61, n39, n34]) (s6_sp b m c held long w hb ht h0 h1 (ne n61) (ne n39) (ne n34) (ne n62) hs)
  | false => exact fin (by simp [step, ht, hs, n62, n61, n39, n34]) (s6_other b m c held long w hb ht h0 h1 (ne n61) (ne n39) (ne n34) (ne n62) hs)

theorem st7 (b : Nat) (m : M) (c held : Int) (long : Bool) (w : World) (hb : Box b m w) (ht : m.tag = 7) (h0 : 0 ≤ c) (h1 : c ≤ 255) (l0 : 0 ≤ m.last) (l1 : m.last ≤ 255) (hn : 0 ≤ m.named) (hm : m.named ≤ 1000000) (q0 : 0 ≤ m.equals) (q1 : m.equals ≤ 1000000) : Steps 37 b m c held long w (step m c held long) := by
  by_cases a : c = m.quote
  · exact fin (by simp [step, ht, a]) (s7_end b m c held long w hb ht h0 h1 (by simpa using a))
  · exact fin (by simp [step, ht, a]) (s7_in b m c held long w hb ht h0 h1 (ne a))

theorem st8 (b : Nat) (m : M) (c held : Int) (long : Bool) (w : World) (hb : Box b m w) (ht : m.tag = 8) (h0 : 0 ≤ c) (h1 : c ≤ 255) (l0 : 0 ≤ m.last) (l1 : m.last ≤ 255) (hn : 0 ≤ m.named) (hm : m.named ≤ 1000000) (q0 : 0 ≤ m.equals) (q1 : m.equals ≤ 1000000) : Steps 37 b m c held long w (step m c held long) := by
  by_cases n62 : c = 62
  · subst n62; exact fin (by simp [step, ht]) (s8_62 b m held long w hb ht)
  cases hs : Leaf.sp c with
  | true => exact fin (by simp [step, ht, hs, n62]) (s8_sp b m c held long w hb ht h0 h1 (ne n62) hs)
  | false => exact fin (by simp [step, ht, hs, n62]) (s8_other b m c held long w hb ht h0 h1 (ne n62) hs)

/-- What holds of every markup that the reader comes to. -/
structure Fit (m : M) : Prop where
  t0 : 0 ≤ m.tag
  t8 : m.tag ≤ 8
  l0 : 0 ≤ m.last
  l1 : m.last ≤ 255
  n0 : 0 ≤ m.named
  n1 : m.named ≤ 1000000
  q0 : 0 ≤ m.equals
  q1 : m.equals ≤ 1000000

theorem tagStep_any (b : Nat) (m : M) (c held : Int) (long : Bool) (w : World) (hb : Box b m w) (h : Fit m) (h0 : 0 ≤ c) (h1 : c ≤ 255) : Steps 37 b m c held long w (step m c held long) := by
  obtain ⟨t0, t8, l0, l1, hn, hm, q0, q1⟩ := h
  have h9 : m.tag = 0 ∨ m.tag = 1 ∨ m.tag = 2 ∨ m.tag = 3 ∨ m.tag = 4 ∨ m.tag = 5 ∨ m.tag = 6 ∨ m.tag = 7 ∨ m.tag = 8 := by omega
  rcases h9 with ht | ht | ht | ht | ht | ht | ht | ht | ht
  · exact st0 b m c held long w hb ht h0 h1 l0 l1 hn hm q0 q1
  · exact st1 b m c held long w hb ht h0 h1 l0 l1 hn hm q0 q1
  · exact st2 b m c held long w hb ht h0 h1 l0 l1 hn hm q0 q1
  · exact st3 b m c held long w hb ht h0 h1 l0 l1 hn hm q0 q1
  · exact st4 b m c held long w hb ht h0 h1 l0 l1 hn hm q0 q1
  · exact st5 b m c held long w hb ht h0 h1 l0 l1 hn hm q0 q1
  · exact st6 b m c held long w hb ht h0 h1 l0 l1 hn hm q0 q1
  · exact st7 b m c held long w hb ht h0 h1 l0 l1 hn hm q0 q1
  · exact st8 b m c held long w hb ht h0 h1 l0 l1 hn hm q0 q1

/-- ZZTagStep hands on what tagStep answers. -/
theorem zzTagStep (b : Nat) (m : M) (c held : Int) (long : Bool) (w : World) (hb : Box b m w) (h : Fit m) (h0 : 0 ≤ c) (h1 : c ≤ 255) :
    Calls Try.prog 22 #[.pointer (some ⟨b, 0, none⟩), .int .u8 c, .int .i64 held, .bool long] w fun e w' => e = .returned (.int .u8 (step m c held long).2) ∧ Box b (step m c held long).1 w' ∧ Only b w w' := by
  have hs := tagStep_any b m c held long w hb h h0 h1
  generalize step m c held long = r at hs
  obtain ⟨m', a⟩ := r
  simp only [Steps] at hs
  have HS := hs
  go_enter Try.func22, Try.ntmps22
  go_wp2_with (go_at_call 37; refine hs.mono ?_; rintro e w' ⟨rfl, hb1, ho1⟩)
  go_ret
  exact ⟨rfl, hb1, ho1⟩

end Tag
end Go.Proofs.Qxb6000730a

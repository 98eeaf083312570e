/-
  tagStep, state by state: one walk a way (A).
-/
import Derived.Test.Qxb6000730aTagName
namespace Go.Proofs.Qxb6000730a
open Go.ChangeShapes Go.WideShapes Go.ChangeAt Go.RowKit
namespace Tag
set_option linter.unusedVariables false
set_option maxRecDepth 100000 in
set_option maxHeartbeats 800000 in
theorem s0_9 (b : Nat) (m : M) (held : Int) (long : Bool) (w : World) (hb : Box b m w) (ht : m.tag = 0) :
    Calls Try.prog 37 #[.pointer (some ⟨b, 0, none⟩), .int .u8 9, .int .i64 held, .bool long] w fun e w' => e = .returned (.int .u8 0) ∧ Box b { m with tag := 1 } w' ∧ Only b w w' := by
  have hf := hb.free
  have h14 := hb.tag
  rw [ht] at h14
  have HT : Hid (m.tag = 0) := ht
  clear ht
  go_enter Try.func37, Try.ntmps37
  go_wp2
  go_ret
  exact ⟨rfl, (hb.set_tag 1), ((Only.refl _ _).set _ _)⟩

set_option maxRecDepth 100000 in
set_option maxHeartbeats 800000 in
theorem s0_10 (b : Nat) (m : M) (held : Int) (long : Bool) (w : World) (hb : Box b m w) (ht : m.tag = 0) :
    Calls Try.prog 37 #[.pointer (some ⟨b, 0, none⟩), .int .u8 10, .int .i64 held, .bool long] w fun e w' => e = .returned (.int .u8 0) ∧ Box b { m with tag := 1 } w' ∧ Only b w w' := by
  have hf := hb.free
  have h14 := hb.tag
  rw [ht] at h14
  have HT : Hid (m.tag = 0) := ht
  clear ht
  go_enter Try.func37, Try.ntmps37
  go_wp2
  go_ret
  exact ⟨rfl, (hb.set_tag 1), ((Only.refl _ _).set _ _)⟩

set_option maxRecDepth 100000 in
set_option maxHeartbeats 800000 in
theorem s0_13 (b : Nat) (m : M) (held : Int) (long : Bool) (w : World) (hb : Box b m w) (ht : m.tag = 0) :
    Calls Try.prog 37 #[.pointer (some ⟨b, 0, none⟩), .int .u8 13, .int .i64 held, .bool long] w fun e w' => e = .returned (.int .u8 0) ∧ Box b { m with tag := 1 } w' ∧ Only b w w' := by
  have hf := hb.free
  have h14 := hb.tag
  rw [ht] at h14
  have HT : Hid (m.tag = 0) := ht
  clear ht
  go_enter Try.func37, Try.ntmps37
  go_wp2
  go_ret
  exact ⟨rfl, (hb.set_tag 1), ((Only.refl _ _).set _ _)⟩

set_option maxRecDepth 100000 in
set_option maxHeartbeats 800000 in
theorem s0_12 (b : Nat) (m : M) (held : Int) (long : Bool) (w : World) (hb : Box b m w) (ht : m.tag = 0) :
    Calls Try.prog 37 #[.pointer (some ⟨b, 0, none⟩), .int .u8 12, .int .i64 held, .bool long] w fun e w' => e = .returned (.int .u8 0) ∧ Box b { m with tag := 1 } w' ∧ Only b w w' := by
  have hf := hb.free
  have h14 := hb.tag
  rw [ht] at h14
  have HT : Hid (m.tag = 0) := ht
  clear ht
  go_enter Try.func37, Try.ntmps37
  go_wp2
  go_ret
  exact ⟨rfl, (hb.set_tag 1), ((Only.refl _ _).set _ _)⟩

set_option maxRecDepth 100000 in
set_option maxHeartbeats 800000 in
theorem s0_32 (b : Nat) (m : M) (held : Int) (long : Bool) (w : World) (hb : Box b m w) (ht : m.tag = 0) :
    Calls Try.prog 37 #[.pointer (some ⟨b, 0, none⟩), .int .u8 32, .int .i64 held, .bool long] w fun e w' => e = .returned (.int .u8 0) ∧ Box b { m with tag := 1 } w' ∧ Only b w w' := by
  have hf := hb.free
  have h14 := hb.tag
  rw [ht] at h14
  have HT : Hid (m.tag = 0) := ht
  clear ht
  go_enter Try.func37, Try.ntmps37
  go_wp2
  go_ret
  exact ⟨rfl, (hb.set_tag 1), ((Only.refl _ _).set _ _)⟩

set_option maxRecDepth 100000 in
set_option maxHeartbeats 800000 in
theorem s0_47 (b : Nat) (m : M) (held : Int) (long : Bool) (w : World) (hb : Box b m w) (ht : m.tag = 0) :
    Calls Try.prog 37 #[.pointer (some ⟨b, 0, none⟩), .int .u8 47, .int .i64 held, .bool long] w fun e w' => e = .returned (.int .u8 0) ∧ Box b { m with tag := 2 } w' ∧ Only b w w' := by
  have hf := hb.free
  have h14 := hb.tag
  rw [ht] at h14
  have HT : Hid (m.tag = 0) := ht
  clear ht
  go_enter Try.func37, Try.ntmps37
  go_wp2
  go_ret
  exact ⟨rfl, (hb.set_tag 2), ((Only.refl _ _).set _ _)⟩

set_option maxRecDepth 100000 in
set_option maxHeartbeats 800000 in
theorem s0_62 (b : Nat) (m : M) (held : Int) (long : Bool) (w : World) (hb : Box b m w) (ht : m.tag = 0) :
    Calls Try.prog 37 #[.pointer (some ⟨b, 0, none⟩), .int .u8 62, .int .i64 held, .bool long] w fun e w' => e = .returned (.int .u8 1) ∧ Box b m w' ∧ Only b w w' := by
  have hf := hb.free
  have h14 := hb.tag
  rw [ht] at h14
  have HT : Hid (m.tag = 0) := ht
  clear ht
  go_enter Try.func37, Try.ntmps37
  go_wp2
  go_ret
  exact ⟨rfl, hb, (Only.refl _ _)⟩

set_option maxRecDepth 100000 in
set_option maxHeartbeats 800000 in
theorem s0_nul_39 (b : Nat) (m : M) (held : Int) (long : Bool) (w : World) (hb : Box b m w) (ht : m.tag = 0) (hl : m.last = 39) :
    Calls Try.prog 37 #[.pointer (some ⟨b, 0, none⟩), .int .u8 0, .int .i64 held, .bool long] w fun e w' => e = .returned (.int .u8 0) ∧ Box b { m with tag := 3, nameQuote := false } w' ∧ Only b w w' := by
  have hf := hb.free
  have h14 := hb.tag
  have h11 := hb.last
  have h17 := hb.nameQuote
  rw [ht] at h14
  rw [hl] at h11
  clear hl
  have HT : Hid (m.tag = 0) := ht
  clear ht
  go_enter Try.func37, Try.ntmps37
  go_wp2
  go_ret
  exact ⟨rfl, ((hb.set_tag 3).set_nameQuote false), (((Only.refl _ _).set _ _).set _ _)⟩

set_option maxRecDepth 100000 in
set_option maxHeartbeats 800000 in
theorem s0_nul_34 (b : Nat) (m : M) (held : Int) (long : Bool) (w : World) (hb : Box b m w) (ht : m.tag = 0) (hl : m.last = 34) :
    Calls Try.prog 37 #[.pointer (some ⟨b, 0, none⟩), .int .u8 0, .int .i64 held, .bool long] w fun e w' => e = .returned (.int .u8 0) ∧ Box b { m with tag := 3, nameQuote := false } w' ∧ Only b w w' := by
  have hf := hb.free
  have h14 := hb.tag
  have h11 := hb.last
  have h17 := hb.nameQuote
  rw [ht] at h14
  rw [hl] at h11
  clear hl
  have HT : Hid (m.tag = 0) := ht
  clear ht
  go_enter Try.func37, Try.ntmps37
  go_wp2
  go_ret
  exact ⟨rfl, ((hb.set_tag 3).set_nameQuote false), (((Only.refl _ _).set _ _).set _ _)⟩

set_option maxRecDepth 100000 in
set_option maxHeartbeats 800000 in
theorem s0_nul_sp (b : Nat) (m : M) (held : Int) (long : Bool) (w : World) (hb : Box b m w) (ht : m.tag = 0) (l0 : 0 ≤ m.last) (l1 : m.last ≤ 255) (e1 : (m.last == 39) = false) (e2 : (m.last == 34) = false) (hs : Leaf.sp m.last = true) :
    Calls Try.prog 37 #[.pointer (some ⟨b, 0, none⟩), .int .u8 0, .int .i64 held, .bool long] w fun e w' => e = .returned (.int .u8 0) ∧ Box b { m with tag := 3, nameQuote := false } w' ∧ Only b w w' := by
  have hf := hb.free
  have h14 := hb.tag
  have h11 := hb.last
  have h17 := hb.nameQuote
  rw [ht] at h14
  have HT : Hid (m.tag = 0) := ht
  clear ht
  go_enter Try.func37, Try.ntmps37
  go_wp2_with (go_at_call 43; refine (Leaf.isSpace_yes _ _ l0 l1 hs).mono ?_; rintro e w' ⟨rfl, rfl⟩)
  go_ret
  exact ⟨rfl, ((hb.set_tag 3).set_nameQuote false), (((Only.refl _ _).set _ _).set _ _)⟩

set_option maxRecDepth 100000 in
set_option maxHeartbeats 800000 in
theorem s0_nul_text (b : Nat) (m : M) (held : Int) (w : World) (hb : Box b m w) (ht : m.tag = 0) (l0 : 0 ≤ m.last) (l1 : m.last ≤ 255) (e1 : (m.last == 39) = false) (e2 : (m.last == 34) = false) (hs : Leaf.sp m.last = false) :
    Calls Try.prog 37 #[.pointer (some ⟨b, 0, none⟩), .int .u8 0, .int .i64 held, .bool false] w fun e w' => e = .returned (.int .u8 3) ∧ Box b m w' ∧ Only b w w' := by
  have hf := hb.free
  have h14 := hb.tag
  have h11 := hb.last
  have h17 := hb.nameQuote
  rw [ht] at h14
  have HT : Hid (m.tag = 0) := ht
  clear ht
  go_enter Try.func37, Try.ntmps37
  go_wp2_with (go_at_call 43; refine (Leaf.isSpace_no _ _ l0 l1 hs).mono ?_; rintro e w' ⟨rfl, rfl⟩)
  go_ret
  exact ⟨rfl, hb, (Only.refl _ _)⟩

set_option maxRecDepth 100000 in
set_option maxHeartbeats 800000 in
theorem s0_nul_long (b : Nat) (m : M) (held : Int) (w : World) (hb : Box b m w) (ht : m.tag = 0) (l0 : 0 ≤ m.last) (l1 : m.last ≤ 255) (e1 : (m.last == 39) = false) (e2 : (m.last == 34) = false) (hs : Leaf.sp m.last = false) (hn : 0 ≤ m.named) (hm : m.named ≤ 1000000) :
    Calls Try.prog 37 #[.pointer (some ⟨b, 0, none⟩), .int .u8 0, .int .i64 held, .bool true] w fun e w' => e = .returned (.int .u8 0) ∧ Box b { m with named := m.named + 1, last := 0 } w' ∧ Only b w w' := by
  have hf := hb.free
  have h14 := hb.tag
  have h11 := hb.last
  have h17 := hb.nameQuote
  rw [ht] at h14
  have HT : Hid (m.tag = 0) := ht
  clear ht
  go_enter Try.func37, Try.ntmps37
  go_wp2_with (first | (go_at_call 43; refine (Leaf.isSpace_no _ _ l0 l1 hs).mono ?_; rintro e w' ⟨rfl, rfl⟩) | (go_at_call 44; refine (addName_any b m _ _ hb (by omega) (by omega) hn hm).mono ?_; rintro e w1 ⟨rfl, hb1, ho1⟩; have k14 : w1.cell? ⟨b, 14, none⟩ = some (.int .u8 0) := hb1.tag.trans (by rw [HT.out])))
  go_ret
  exact ⟨rfl, hb1, ho1⟩

set_option maxRecDepth 100000 in
set_option maxHeartbeats 800000 in
theorem s0_name (b : Nat) (m : M) (c held : Int) (long : Bool) (w : World) (hb : Box b m w) (ht : m.tag = 0) (h0 : 0 ≤ c) (h1 : c ≤ 255) (n9 : (c == 9) = false) (n10 : (c == 10) = false) (n13 : (c == 13) = false) (n12 : (c == 12) = false) (n32 : (c == 32) = false) (n47 : (c == 47) = false) (n62 : (c == 62) = false) (n0 : (c == 0) = false) (hn : 0 ≤ m.named) (hm : m.named ≤ 1000000) :
    Calls Try.prog 37 #[.pointer (some ⟨b, 0, none⟩), .int .u8 c, .int .i64 held, .bool long] w fun e w' => e = .returned (.int .u8 0) ∧ Box b { m with named := m.named + 1, last := c } w' ∧ Only b w w' := by
  have hf := hb.free
  have h14 := hb.tag
  rw [ht] at h14
  have HT : Hid (m.tag = 0) := ht
  clear ht
  go_enter Try.func37, Try.ntmps37
  go_wp2_with (go_at_call 44; refine (addName_any b m _ _ hb h0 h1 hn hm).mono ?_; rintro e w1 ⟨rfl, hb1, ho1⟩; have k14 : w1.cell? ⟨b, 14, none⟩ = some (.int .u8 0) := hb1.tag.trans (by rw [HT.out]))
  go_ret
  exact ⟨rfl, hb1, ho1⟩

end Tag
end Go.Proofs.Qxb6000730a

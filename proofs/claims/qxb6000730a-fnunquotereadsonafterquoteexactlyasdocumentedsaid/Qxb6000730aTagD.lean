/-
  tagStep, state by state: one walk a way (D).
-/
import Derived.Test.Qxb6000730aTagName
namespace Go.Proofs.Qxb6000730a
open Go.ChangeShapes Go.WideShapes Go.ChangeAt Go.RowKit
namespace Tag
set_option linter.unusedVariables false
set_option maxRecDepth 100000 in
set_option maxHeartbeats 800000 in
theorem s5_61 (b : Nat) (m : M) (held : Int) (long : Bool) (w : World) (hb : Box b m w) (ht : m.tag = 5) (q0 : 0 ≤ m.equals) (q1 : m.equals ≤ 1000000) :
    Calls Try.prog 37 #[.pointer (some ⟨b, 0, none⟩), .int .u8 61, .int .i64 held, .bool long] w fun e w' => e = .returned (.int .u8 0) ∧ Box b { m with equals := (m.equals + 1) } w' ∧ Only b w w' := by
  have hf := hb.free
  have h14 := hb.tag
  have h15 := hb.equals
  rw [ht] at h14
  have HT : Hid (m.tag = 5) := ht
  clear ht
  go_enter Try.func37, Try.ntmps37
  go_wp2
  go_ret
  exact ⟨rfl, (hb.set_equals (m.equals + 1)), ((Only.refl _ _).set _ _)⟩

set_option maxRecDepth 100000 in
set_option maxHeartbeats 800000 in
theorem s5_39 (b : Nat) (m : M) (held : Int) (long : Bool) (w : World) (hb : Box b m w) (ht : m.tag = 5) :
    Calls Try.prog 37 #[.pointer (some ⟨b, 0, none⟩), .int .u8 39, .int .i64 held, .bool long] w fun e w' => e = .returned (.int .u8 0) ∧ Box b { m with quotedAt := held, quotedAfter := false, reread := (!long), tag := 7, quote := 39 } w' ∧ Only b w w' := by
  have hf := hb.free
  have h14 := hb.tag
  have h19 := hb.quote
  have h20 := hb.quotedAt
  have h21 := hb.quotedAfter
  have h22 := hb.reread
  rw [ht] at h14
  have HT : Hid (m.tag = 5) := ht
  clear ht
  go_enter Try.func37, Try.ntmps37
  go_wp2
  go_ret
  exact ⟨rfl, (((((hb.set_quotedAt held).set_quotedAfter false).set_reread (!long)).set_tag 7).set_quote 39), ((((((Only.refl _ _).set _ _).set _ _).set _ _).set _ _).set _ _)⟩

set_option maxRecDepth 100000 in
set_option maxHeartbeats 800000 in
theorem s5_34 (b : Nat) (m : M) (held : Int) (long : Bool) (w : World) (hb : Box b m w) (ht : m.tag = 5) :
    Calls Try.prog 37 #[.pointer (some ⟨b, 0, none⟩), .int .u8 34, .int .i64 held, .bool long] w fun e w' => e = .returned (.int .u8 0) ∧ Box b { m with quotedAt := held, quotedAfter := false, reread := (!long), tag := 7, quote := 34 } w' ∧ Only b w w' := by
  have hf := hb.free
  have h14 := hb.tag
  have h19 := hb.quote
  have h20 := hb.quotedAt
  have h21 := hb.quotedAfter
  have h22 := hb.reread
  rw [ht] at h14
  have HT : Hid (m.tag = 5) := ht
  clear ht
  go_enter Try.func37, Try.ntmps37
  go_wp2
  go_ret
  exact ⟨rfl, (((((hb.set_quotedAt held).set_quotedAfter false).set_reread (!long)).set_tag 7).set_quote 34), ((((((Only.refl _ _).set _ _).set _ _).set _ _).set _ _).set _ _)⟩

set_option maxRecDepth 100000 in
set_option maxHeartbeats 800000 in
theorem s5_62 (b : Nat) (m : M) (held : Int) (long : Bool) (w : World) (hb : Box b m w) (ht : m.tag = 5) :
    Calls Try.prog 37 #[.pointer (some ⟨b, 0, none⟩), .int .u8 62, .int .i64 held, .bool long] w fun e w' => e = .returned (.int .u8 1) ∧ Box b m w' ∧ Only b w w' := by
  have hf := hb.free
  have h14 := hb.tag
  rw [ht] at h14
  have HT : Hid (m.tag = 5) := ht
  clear ht
  go_enter Try.func37, Try.ntmps37
  go_wp2
  go_ret
  exact ⟨rfl, hb, (Only.refl _ _)⟩

set_option maxRecDepth 100000 in
set_option maxHeartbeats 800000 in
theorem s5_sp (b : Nat) (m : M) (c held : Int) (long : Bool) (w : World) (hb : Box b m w) (ht : m.tag = 5) (h0 : 0 ≤ c) (h1 : c ≤ 255) (n61 : (c == 61) = false) (n39 : (c == 39) = false) (n34 : (c == 34) = false) (n62 : (c == 62) = false) (hs : Leaf.sp c = true) :
    Calls Try.prog 37 #[.pointer (some ⟨b, 0, none⟩), .int .u8 c, .int .i64 held, .bool long] w fun e w' => e = .returned (.int .u8 0) ∧ Box b { m with tag := 6 } w' ∧ Only b w w' := by
  have hf := hb.free
  have h14 := hb.tag
  rw [ht] at h14
  have HT : Hid (m.tag = 5) := ht
  clear ht
  go_enter Try.func37, Try.ntmps37
  go_wp2_with (go_at_call 43; refine (Leaf.isSpace_yes _ _ h0 h1 hs).mono ?_; rintro e w' ⟨rfl, rfl⟩)
  go_ret
  exact ⟨rfl, (hb.set_tag 6), ((Only.refl _ _).set _ _)⟩

set_option maxRecDepth 100000 in
set_option maxHeartbeats 800000 in
theorem s5_other (b : Nat) (m : M) (c held : Int) (long : Bool) (w : World) (hb : Box b m w) (ht : m.tag = 5) (h0 : 0 ≤ c) (h1 : c ≤ 255) (n61 : (c == 61) = false) (n39 : (c == 39) = false) (n34 : (c == 34) = false) (n62 : (c == 62) = false) (hs : Leaf.sp c = false) :
    Calls Try.prog 37 #[.pointer (some ⟨b, 0, none⟩), .int .u8 c, .int .i64 held, .bool long] w fun e w' => e = .returned (.int .u8 0) ∧ Box b { m with tag := 8 } w' ∧ Only b w w' := by
  have hf := hb.free
  have h14 := hb.tag
  rw [ht] at h14
  have HT : Hid (m.tag = 5) := ht
  clear ht
  go_enter Try.func37, Try.ntmps37
  go_wp2_with (go_at_call 43; refine (Leaf.isSpace_no _ _ h0 h1 hs).mono ?_; rintro e w' ⟨rfl, rfl⟩)
  go_ret
  exact ⟨rfl, (hb.set_tag 8), ((Only.refl _ _).set _ _)⟩

set_option maxRecDepth 100000 in
set_option maxHeartbeats 800000 in
theorem s6_61 (b : Nat) (m : M) (held : Int) (long : Bool) (w : World) (hb : Box b m w) (ht : m.tag = 6) :
    Calls Try.prog 37 #[.pointer (some ⟨b, 0, none⟩), .int .u8 61, .int .i64 held, .bool long] w fun e w' => e = .returned (.int .u8 0) ∧ Box b { m with tag := 8 } w' ∧ Only b w w' := by
  have hf := hb.free
  have h14 := hb.tag
  rw [ht] at h14
  have HT : Hid (m.tag = 6) := ht
  clear ht
  go_enter Try.func37, Try.ntmps37
  go_wp2_with (go_at_call 43; refine (Leaf.isSpace_no _ _ (by omega) (by omega) (by decide)).mono ?_; rintro e w' ⟨rfl, rfl⟩)
  go_ret
  exact ⟨rfl, (hb.set_tag 8), ((Only.refl _ _).set _ _)⟩

set_option maxRecDepth 100000 in
set_option maxHeartbeats 800000 in
theorem s6_39 (b : Nat) (m : M) (held : Int) (long : Bool) (w : World) (hb : Box b m w) (ht : m.tag = 6) :
    Calls Try.prog 37 #[.pointer (some ⟨b, 0, none⟩), .int .u8 39, .int .i64 held, .bool long] w fun e w' => e = .returned (.int .u8 0) ∧ Box b { m with quotedAt := held, quotedAfter := true, reread := (!long), tag := 7, quote := 39 } w' ∧ Only b w w' := by
  have hf := hb.free
  have h14 := hb.tag
  have h19 := hb.quote
  have h20 := hb.quotedAt
  have h21 := hb.quotedAfter
  have h22 := hb.reread
  rw [ht] at h14
  have HT : Hid (m.tag = 6) := ht
  clear ht
  go_enter Try.func37, Try.ntmps37
  go_wp2
  go_ret
  exact ⟨rfl, (((((hb.set_quotedAt held).set_quotedAfter true).set_reread (!long)).set_tag 7).set_quote 39), ((((((Only.refl _ _).set _ _).set _ _).set _ _).set _ _).set _ _)⟩

set_option maxRecDepth 100000 in
set_option maxHeartbeats 800000 in
theorem s6_34 (b : Nat) (m : M) (held : Int) (long : Bool) (w : World) (hb : Box b m w) (ht : m.tag = 6) :
    Calls Try.prog 37 #[.pointer (some ⟨b, 0, none⟩), .int .u8 34, .int .i64 held, .bool long] w fun e w' => e = .returned (.int .u8 0) ∧ Box b { m with quotedAt := held, quotedAfter := true, reread := (!long), tag := 7, quote := 34 } w' ∧ Only b w w' := by
  have hf := hb.free
  have h14 := hb.tag
  have h19 := hb.quote
  have h20 := hb.quotedAt
  have h21 := hb.quotedAfter
  have h22 := hb.reread
  rw [ht] at h14
  have HT : Hid (m.tag = 6) := ht
  clear ht
  go_enter Try.func37, Try.ntmps37
  go_wp2
  go_ret
  exact ⟨rfl, (((((hb.set_quotedAt held).set_quotedAfter true).set_reread (!long)).set_tag 7).set_quote 34), ((((((Only.refl _ _).set _ _).set _ _).set _ _).set _ _).set _ _)⟩

set_option maxRecDepth 100000 in
set_option maxHeartbeats 800000 in
theorem s6_62 (b : Nat) (m : M) (held : Int) (long : Bool) (w : World) (hb : Box b m w) (ht : m.tag = 6) :
    Calls Try.prog 37 #[.pointer (some ⟨b, 0, none⟩), .int .u8 62, .int .i64 held, .bool long] w fun e w' => e = .returned (.int .u8 1) ∧ Box b m w' ∧ Only b w w' := by
  have hf := hb.free
  have h14 := hb.tag
  rw [ht] at h14
  have HT : Hid (m.tag = 6) := ht
  clear ht
  go_enter Try.func37, Try.ntmps37
  go_wp2
  go_ret
  exact ⟨rfl, hb, (Only.refl _ _)⟩

set_option maxRecDepth 100000 in
set_option maxHeartbeats 800000 in
theorem s6_sp (b : Nat) (m : M) (c held : Int) (long : Bool) (w : World) (hb : Box b m w) (ht : m.tag = 6) (h0 : 0 ≤ c) (h1 : c ≤ 255) (n61 : (c == 61) = false) (n39 : (c == 39) = false) (n34 : (c == 34) = false) (n62 : (c == 62) = false) (hs : Leaf.sp c = true) :
    Calls Try.prog 37 #[.pointer (some ⟨b, 0, none⟩), .int .u8 c, .int .i64 held, .bool long] w fun e w' => e = .returned (.int .u8 0) ∧ Box b { m with tag := 6 } w' ∧ Only b w w' := by
  have hf := hb.free
  have h14 := hb.tag
  rw [ht] at h14
  have HT : Hid (m.tag = 6) := ht
  clear ht
  go_enter Try.func37, Try.ntmps37
  go_wp2_with (go_at_call 43; refine (Leaf.isSpace_yes _ _ h0 h1 hs).mono ?_; rintro e w' ⟨rfl, rfl⟩)
  go_ret
  exact ⟨rfl, (hb.set_tag 6), ((Only.refl _ _).set _ _)⟩

set_option maxRecDepth 100000 in
set_option maxHeartbeats 800000 in
theorem s6_other (b : Nat) (m : M) (c held : Int) (long : Bool) (w : World) (hb : Box b m w) (ht : m.tag = 6) (h0 : 0 ≤ c) (h1 : c ≤ 255) (n61 : (c == 61) = false) (n39 : (c == 39) = false) (n34 : (c == 34) = false) (n62 : (c == 62) = false) (hs : Leaf.sp c = false) :
    Calls Try.prog 37 #[.pointer (some ⟨b, 0, none⟩), .int .u8 c, .int .i64 held, .bool long] w fun e w' => e = .returned (.int .u8 0) ∧ Box b { m with tag := 8 } w' ∧ Only b w w' := by
  have hf := hb.free
  have h14 := hb.tag
  rw [ht] at h14
  have HT : Hid (m.tag = 6) := ht
  clear ht
  go_enter Try.func37, Try.ntmps37
  go_wp2_with (go_at_call 43; refine (Leaf.isSpace_no _ _ h0 h1 hs).mono ?_; rintro e w' ⟨rfl, rfl⟩)
  go_ret
  exact ⟨rfl, (hb.set_tag 8), ((Only.refl _ _).set _ _)⟩

set_option maxRecDepth 100000 in
set_option maxHeartbeats 800000 in
theorem s7_end (b : Nat) (m : M) (c held : Int) (long : Bool) (w : World) (hb : Box b m w) (ht : m.tag = 7) (h0 : 0 ≤ c) (h1 : c ≤ 255) (hq : (c == m.quote) = true) :
    Calls Try.prog 37 #[.pointer (some ⟨b, 0, none⟩), .int .u8 c, .int .i64 held, .bool long] w fun e w' => e = .returned (.int .u8 0) ∧ Box b { m with tag := 1, reread := false } w' ∧ Only b w w' := by
  have hf := hb.free
  have h14 := hb.tag
  have h19 := hb.quote
  have h22 := hb.reread
  rw [ht] at h14
  have HT : Hid (m.tag = 7) := ht
  clear ht
  go_enter Try.func37, Try.ntmps37
  go_wp2
  go_ret
  exact ⟨rfl, ((hb.set_tag 1).set_reread false), (((Only.refl _ _).set _ _).set _ _)⟩

set_option maxRecDepth 100000 in
set_option maxHeartbeats 800000 in
theorem s7_in (b : Nat) (m : M) (c held : Int) (long : Bool) (w : World) (hb : Box b m w) (ht : m.tag = 7) (h0 : 0 ≤ c) (h1 : c ≤ 255) (hq : (c == m.quote) = false) :
    Calls Try.prog 37 #[.pointer (some ⟨b, 0, none⟩), .int .u8 c, .int .i64 held, .bool long] w fun e w' => e = .returned (.int .u8 0) ∧ Box b m w' ∧ Only b w w' := by
  have hf := hb.free
  have h14 := hb.tag
  have h19 := hb.quote
  rw [ht] at h14
  have HT : Hid (m.tag = 7) := ht
  clear ht
  go_enter Try.func37, Try.ntmps37
  go_wp2
  go_ret
  exact ⟨rfl, hb, (Only.refl _ _)⟩

set_option maxRecDepth 100000 in
set_option maxHeartbeats 800000 in
theorem s8_62 (b : Nat) (m : M) (held : Int) (long : Bool) (w : World) (hb : Box b m w) (ht : m.tag = 8) :
    Calls Try.prog 37 #[.pointer (some ⟨b, 0, none⟩), .int .u8 62, .int .i64 held, .bool long] w fun e w' => e = .returned (.int .u8 1) ∧ Box b m w' ∧ Only b w w' := by
  have hf := hb.free
  have h14 := hb.tag
  rw [ht] at h14
  have HT : Hid (m.tag = 8) := ht
  clear ht
  go_enter Try.func37, Try.ntmps37
  go_wp2
  go_ret
  exact ⟨rfl, hb, (Only.refl _ _)⟩

set_option maxRecDepth 100000 in
set_option maxHeartbeats 800000 in
theorem s8_sp (b : Nat) (m : M) (c held : Int) (long : Bool) (w : World) (hb : Box b m w) (ht : m.tag = 8) (h0 : 0 ≤ c) (h1 : c ≤ 255) (n62 : (c == 62) = false) (hs : Leaf.sp c = true) :
    Calls Try.prog 37 #[.pointer (some ⟨b, 0, none⟩), .int .u8 c, .int .i64 held, .bool long] w fun e w' => e = .returned (.int .u8 0) ∧ Box b { m with tag := 1 } w' ∧ Only b w w' := by
  have hf := hb.free
  have h14 := hb.tag
  rw [ht] at h14
  have HT : Hid (m.tag = 8) := ht
  clear ht
  go_enter Try.func37, Try.ntmps37
  go_wp2_with (go_at_call 43; refine (Leaf.isSpace_yes _ _ h0 h1 hs).mono ?_; rintro e w' ⟨rfl, rfl⟩)
  go_ret
  exact ⟨rfl, (hb.set_tag 1), ((Only.refl _ _).set _ _)⟩

set_option maxRecDepth 100000 in
set_option maxHeartbeats 800000 in
theorem s8_other (b : Nat) (m : M) (c held : Int) (long : Bool) (w : World) (hb : Box b m w) (ht : m.tag = 8) (h0 : 0 ≤ c) (h1 : c ≤ 255) (n62 : (c == 62) = false) (hs : Leaf.sp c = false) :
    Calls Try.prog 37 #[.pointer (some ⟨b, 0, none⟩), .int .u8 c, .int .i64 held, .bool long] w fun e w' => e = .returned (.int .u8 0) ∧ Box b m w' ∧ Only b w w' := by
  have hf := hb.free
  have h14 := hb.tag
  rw [ht] at h14
  have HT : Hid (m.tag = 8) := ht
  clear ht
  go_enter Try.func37, Try.ntmps37
  go_wp2_with (go_at_call 43; refine (Leaf.isSpace_no _ _ h0 h1 hs).mono ?_; rintro e w' ⟨rfl, rfl⟩)
  go_ret
  exact ⟨rfl, hb, (Only.refl _ _)⟩

end Tag
end Go.Proofs.Qxb6000730a

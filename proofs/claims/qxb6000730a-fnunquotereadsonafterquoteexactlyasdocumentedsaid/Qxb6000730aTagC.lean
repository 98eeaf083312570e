/-
  tagStep, state by state: one walk a way (C).
-/
import Derived.Test.Qxb6000730aTagName
namespace Go.Proofs.Qxb6000730a
open Go.ChangeShapes Go.WideShapes Go.ChangeAt Go.RowKit
namespace Tag
set_option linter.unusedVariables false
set_option maxRecDepth 100000 in
set_option maxHeartbeats 800000 in
theorem s3_61 (b : Nat) (m : M) (held : Int) (long : Bool) (w : World) (hb : Box b m w) (ht : m.tag = 3) :
    Calls Try.prog 37 #[.pointer (some ⟨b, 0, none⟩), .int .u8 61, .int .i64 held, .bool long] w fun e w' => e = .returned (.int .u8 0) ∧ Box b { m with tag := 5, equals := 1, spaced := false } w' ∧ Only b w w' := by
  have hf := hb.free
  have h14 := hb.tag
  have h15 := hb.equals
  have h16 := hb.spaced
  rw [ht] at h14
  have HT : Hid (m.tag = 3) := ht
  clear ht
  go_enter Try.func37, Try.ntmps37
  go_wp2
  go_ret
  exact ⟨rfl, (((hb.set_tag 5).set_equals 1).set_spaced false), ((((Only.refl _ _).set _ _).set _ _).set _ _)⟩

set_option maxRecDepth 100000 in
set_option maxHeartbeats 800000 in
theorem s3_47 (b : Nat) (m : M) (held : Int) (long : Bool) (w : World) (hb : Box b m w) (ht : m.tag = 3) :
    Calls Try.prog 37 #[.pointer (some ⟨b, 0, none⟩), .int .u8 47, .int .i64 held, .bool long] w fun e w' => e = .returned (.int .u8 0) ∧ Box b { m with tag := 2 } w' ∧ Only b w w' := by
  have hf := hb.free
  have h14 := hb.tag
  rw [ht] at h14
  have HT : Hid (m.tag = 3) := ht
  clear ht
  go_enter Try.func37, Try.ntmps37
  go_wp2
  go_ret
  exact ⟨rfl, (hb.set_tag 2), ((Only.refl _ _).set _ _)⟩

set_option maxRecDepth 100000 in
set_option maxHeartbeats 800000 in
theorem s3_62 (b : Nat) (m : M) (held : Int) (long : Bool) (w : World) (hb : Box b m w) (ht : m.tag = 3) :
    Calls Try.prog 37 #[.pointer (some ⟨b, 0, none⟩), .int .u8 62, .int .i64 held, .bool long] w fun e w' => e = .returned (.int .u8 1) ∧ Box b m w' ∧ Only b w w' := by
  have hf := hb.free
  have h14 := hb.tag
  rw [ht] at h14
  have HT : Hid (m.tag = 3) := ht
  clear ht
  go_enter Try.func37, Try.ntmps37
  go_wp2
  go_ret
  exact ⟨rfl, hb, (Only.refl _ _)⟩

set_option maxRecDepth 100000 in
set_option maxHeartbeats 800000 in
theorem s3_sp (b : Nat) (m : M) (c held : Int) (long : Bool) (w : World) (hb : Box b m w) (ht : m.tag = 3) (h0 : 0 ≤ c) (h1 : c ≤ 255) (n61 : (c == 61) = false) (n47 : (c == 47) = false) (n62 : (c == 62) = false) (hs : Leaf.sp c = true) :
    Calls Try.prog 37 #[.pointer (some ⟨b, 0, none⟩), .int .u8 c, .int .i64 held, .bool long] w fun e w' => e = .returned (.int .u8 0) ∧ Box b { m with tag := 4 } w' ∧ Only b w w' := by
  have hf := hb.free
  have h14 := hb.tag
  rw [ht] at h14
  have HT : Hid (m.tag = 3) := ht
  clear ht
  go_enter Try.func37, Try.ntmps37
  go_wp2_with (go_at_call 43; refine (Leaf.isSpace_yes _ _ h0 h1 hs).mono ?_; rintro e w' ⟨rfl, rfl⟩)
  go_ret
  exact ⟨rfl, (hb.set_tag 4), ((Only.refl _ _).set _ _)⟩

set_option maxRecDepth 100000 in
set_option maxHeartbeats 800000 in
theorem s3_39 (b : Nat) (m : M) (held : Int) (long : Bool) (w : World) (hb : Box b m w) (ht : m.tag = 3) :
    Calls Try.prog 37 #[.pointer (some ⟨b, 0, none⟩), .int .u8 39, .int .i64 held, .bool long] w fun e w' => e = .returned (.int .u8 0) ∧ Box b { m with nameQuote := true } w' ∧ Only b w w' := by
  have hf := hb.free
  have h14 := hb.tag
  have h17 := hb.nameQuote
  rw [ht] at h14
  have HT : Hid (m.tag = 3) := ht
  clear ht
  go_enter Try.func37, Try.ntmps37
  go_wp2_with (go_at_call 43; refine (Leaf.isSpace_no _ _ (by omega) (by omega) (by decide)).mono ?_; rintro e w' ⟨rfl, rfl⟩)
  go_ret
  exact ⟨rfl, (hb.set_nameQuote true), ((Only.refl _ _).set _ _)⟩

set_option maxRecDepth 100000 in
set_option maxHeartbeats 800000 in
theorem s3_34 (b : Nat) (m : M) (held : Int) (long : Bool) (w : World) (hb : Box b m w) (ht : m.tag = 3) :
    Calls Try.prog 37 #[.pointer (some ⟨b, 0, none⟩), .int .u8 34, .int .i64 held, .bool long] w fun e w' => e = .returned (.int .u8 0) ∧ Box b { m with nameQuote := true } w' ∧ Only b w w' := by
  have hf := hb.free
  have h14 := hb.tag
  have h17 := hb.nameQuote
  rw [ht] at h14
  have HT : Hid (m.tag = 3) := ht
  clear ht
  go_enter Try.func37, Try.ntmps37
  go_wp2_with (go_at_call 43; refine (Leaf.isSpace_no _ _ (by omega) (by omega) (by decide)).mono ?_; rintro e w' ⟨rfl, rfl⟩)
  go_ret
  exact ⟨rfl, (hb.set_nameQuote true), ((Only.refl _ _).set _ _)⟩

set_option maxRecDepth 100000 in
set_option maxHeartbeats 800000 in
theorem s3_other (b : Nat) (m : M) (c held : Int) (long : Bool) (w : World) (hb : Box b m w) (ht : m.tag = 3) (h0 : 0 ≤ c) (h1 : c ≤ 255) (n61 : (c == 61) = false) (n47 : (c == 47) = false) (n62 : (c == 62) = false) (n39 : (c == 39) = false) (n34 : (c == 34) = false) (hs : Leaf.sp c = false) :
    Calls Try.prog 37 #[.pointer (some ⟨b, 0, none⟩), .int .u8 c, .int .i64 held, .bool long] w fun e w' => e = .returned (.int .u8 0) ∧ Box b { m with nameQuote := false } w' ∧ Only b w w' := by
  have hf := hb.free
  have h14 := hb.tag
  have h17 := hb.nameQuote
  rw [ht] at h14
  have HT : Hid (m.tag = 3) := ht
  clear ht
  go_enter Try.func37, Try.ntmps37
  go_wp2_with (go_at_call 43; refine (Leaf.isSpace_no _ _ h0 h1 hs).mono ?_; rintro e w' ⟨rfl, rfl⟩)
  go_ret
  exact ⟨rfl, (hb.set_nameQuote false), ((Only.refl _ _).set _ _)⟩

set_option maxRecDepth 100000 in
set_option maxHeartbeats 800000 in
theorem s4_61 (b : Nat) (m : M) (held : Int) (long : Bool) (w : World) (hb : Box b m w) (ht : m.tag = 4) :
    Calls Try.prog 37 #[.pointer (some ⟨b, 0, none⟩), .int .u8 61, .int .i64 held, .bool long] w fun e w' => e = .returned (.int .u8 0) ∧ Box b { m with tag := 5, equals := 1, spaced := true } w' ∧ Only b w w' := by
  have hf := hb.free
  have h14 := hb.tag
  have h15 := hb.equals
  have h16 := hb.spaced
  rw [ht] at h14
  have HT : Hid (m.tag = 4) := ht
  clear ht
  go_enter Try.func37, Try.ntmps37
  go_wp2
  go_ret
  exact ⟨rfl, (((hb.set_tag 5).set_equals 1).set_spaced true), ((((Only.refl _ _).set _ _).set _ _).set _ _)⟩

set_option maxRecDepth 100000 in
set_option maxHeartbeats 800000 in
theorem s4_47 (b : Nat) (m : M) (held : Int) (long : Bool) (w : World) (hb : Box b m w) (ht : m.tag = 4) :
    Calls Try.prog 37 #[.pointer (some ⟨b, 0, none⟩), .int .u8 47, .int .i64 held, .bool long] w fun e w' => e = .returned (.int .u8 0) ∧ Box b { m with tag := 2 } w' ∧ Only b w w' := by
  have hf := hb.free
  have h14 := hb.tag
  rw [ht] at h14
  have HT : Hid (m.tag = 4) := ht
  clear ht
  go_enter Try.func37, Try.ntmps37
  go_wp2
  go_ret
  exact ⟨rfl, (hb.set_tag 2), ((Only.refl _ _).set _ _)⟩

set_option maxRecDepth 100000 in
set_option maxHeartbeats 800000 in
theorem s4_62 (b : Nat) (m : M) (held : Int) (long : Bool) (w : World) (hb : Box b m w) (ht : m.tag = 4) :
    Calls Try.prog 37 #[.pointer (some ⟨b, 0, none⟩), .int .u8 62, .int .i64 held, .bool long] w fun e w' => e = .returned (.int .u8 1) ∧ Box b m w' ∧ Only b w w' := by
  have hf := hb.free
  have h14 := hb.tag
  rw [ht] at h14
  have HT : Hid (m.tag = 4) := ht
  clear ht
  go_enter Try.func37, Try.ntmps37
  go_wp2
  go_ret
  exact ⟨rfl, hb, (Only.refl _ _)⟩

set_option maxRecDepth 100000 in
set_option maxHeartbeats 800000 in
theorem s4_sp (b : Nat) (m : M) (c held : Int) (long : Bool) (w : World) (hb : Box b m w) (ht : m.tag = 4) (h0 : 0 ≤ c) (h1 : c ≤ 255) (n61 : (c == 61) = false) (n47 : (c == 47) = false) (n62 : (c == 62) = false) (hs : Leaf.sp c = true) :
    Calls Try.prog 37 #[.pointer (some ⟨b, 0, none⟩), .int .u8 c, .int .i64 held, .bool long] w fun e w' => e = .returned (.int .u8 0) ∧ Box b { m with tag := 4 } w' ∧ Only b w w' := by
  have hf := hb.free
  have h14 := hb.tag
  rw [ht] at h14
  have HT : Hid (m.tag = 4) := ht
  clear ht
  go_enter Try.func37, Try.ntmps37
  go_wp2_with (go_at_call 43; refine (Leaf.isSpace_yes _ _ h0 h1 hs).mono ?_; rintro e w' ⟨rfl, rfl⟩)
  go_ret
  exact ⟨rfl, (hb.set_tag 4), ((Only.refl _ _).set _ _)⟩

set_option maxRecDepth 100000 in
set_option maxHeartbeats 800000 in
theorem s4_39 (b : Nat) (m : M) (held : Int) (long : Bool) (w : World) (hb : Box b m w) (ht : m.tag = 4) :
    Calls Try.prog 37 #[.pointer (some ⟨b, 0, none⟩), .int .u8 39, .int .i64 held, .bool long] w fun e w' => e = .returned (.int .u8 0) ∧ Box b { m with tag := 3, nameQuote := true } w' ∧ Only b w w' := by
  have hf := hb.free
  have h14 := hb.tag
  have h17 := hb.nameQuote
  rw [ht] at h14
  have HT : Hid (m.tag = 4) := ht
  clear ht
  go_enter Try.func37, Try.ntmps37
  go_wp2_with (go_at_call 43; refine (Leaf.isSpace_no _ _ (by omega) (by omega) (by decide)).mono ?_; rintro e w' ⟨rfl, rfl⟩)
  go_ret
  exact ⟨rfl, ((hb.set_tag 3).set_nameQuote true), (((Only.refl _ _).set _ _).set _ _)⟩

set_option maxRecDepth 100000 in
set_option maxHeartbeats 800000 in
theorem s4_34 (b : Nat) (m : M) (held : Int) (long : Bool) (w : World) (hb : Box b m w) (ht : m.tag = 4) :
    Calls Try.prog 37 #[.pointer (some ⟨b, 0, none⟩), .int .u8 34, .int .i64 held, .bool long] w fun e w' => e = .returned (.int .u8 0) ∧ Box b { m with tag := 3, nameQuote := true } w' ∧ Only b w w' := by
  have hf := hb.free
  have h14 := hb.tag
  have h17 := hb.nameQuote
  rw [ht] at h14
  have HT : Hid (m.tag = 4) := ht
  clear ht
  go_enter Try.func37, Try.ntmps37
  go_wp2_with (go_at_call 43; refine (Leaf.isSpace_no _ _ (by omega) (by omega) (by decide)).mono ?_; rintro e w' ⟨rfl, rfl⟩)
  go_ret
  exact ⟨rfl, ((hb.set_tag 3).set_nameQuote true), (((Only.refl _ _).set _ _).set _ _)⟩

set_option maxRecDepth 100000 in
set_option maxHeartbeats 800000 in
theorem s4_other (b : Nat) (m : M) (c held : Int) (long : Bool) (w : World) (hb : Box b m w) (ht : m.tag = 4) (h0 : 0 ≤ c) (h1 : c ≤ 255) (n61 : (c == 61) = false) (n47 : (c == 47) = false) (n62 : (c == 62) = false) (n39 : (c == 39) = false) (n34 : (c == 34) = false) (hs : Leaf.sp c = false) :
    Calls Try.prog 37 #[.pointer (some ⟨b, 0, none⟩), .int .u8 c, .int .i64 held, .bool long] w fun e w' => e = .returned (.int .u8 0) ∧ Box b { m with tag := 3, nameQuote := false } w' ∧ Only b w w' := by
  have hf := hb.free
  have h14 := hb.tag
  have h17 := hb.nameQuote
  rw [ht] at h14
  have HT : Hid (m.tag = 4) := ht
  clear ht
  go_enter Try.func37, Try.ntmps37
  go_wp2_with (go_at_call 43; refine (Leaf.isSpace_no _ _ h0 h1 hs).mono ?_; rintro e w' ⟨rfl, rfl⟩)
  go_ret
  exact ⟨rfl, ((hb.set_tag 3).set_nameQuote false), (((Only.refl _ _).set _ _).set _ _)⟩

end Tag
end Go.Proofs.Qxb6000730a

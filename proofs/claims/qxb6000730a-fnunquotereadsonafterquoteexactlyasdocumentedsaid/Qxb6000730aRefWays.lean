/-
  charRef.step: one walk a way.
-/
import Derived.Test.Qxb6000730aRef
namespace Go.Proofs.Qxb6000730a
open Go.ChangeShapes Go.WideShapes Go.ChangeAt Go.RowKit
namespace Ref
set_option linter.unusedVariables false


set_option maxRecDepth 100000 in
set_option maxHeartbeats 800000 in
theorem r0_35 (b : Nat) (r : R) (w : World) (hb : Box b r w) (ht : r.st = 0) :
    Calls Try.prog 33 #[.pointer (some ⟨b, 0, none⟩), .int .u8 35] w fun e w' => e = .returned (.tuple #[.bool false, .bool true]) ∧ Box b { r with st := 1 } w' ∧ Only b w w' := by
  have hf := hb.free
  have h_st := hb.st
  rw [ht] at h_st
  clear ht
  go_enter Try.func33, Try.ntmps33
  go_wp2
  go_ret2
  exact ⟨rfl, hb.set_st 1, ((Only.refl _ _).set _ _)⟩

set_option maxRecDepth 100000 in
set_option maxHeartbeats 800000 in
theorem r0_name (b : Nat) (r : R) (c : Int) (w : World) (hb : Box b r w) (ht : r.st = 0) (h0 : 0 ≤ c) (h1 : c ≤ 255) (h35 : (c == 35) = false) (hn : nm c = true) :
    Calls Try.prog 33 #[.pointer (some ⟨b, 0, none⟩), .int .u8 c] w fun e w' => e = .returned (.tuple #[.bool false, .bool true]) ∧ Box b { r with st := 5, name := put r.name 0 c, n := 1 } w' ∧ Only b w w' := by
  have hf := hb.free
  have h_st := hb.st
  have h_n := hb.n
  rw [ht] at h_st
  clear ht
  have h_nm : w.cell? ⟨b, 2, none⟩ = some (.int .u8 (r.name 0)) := hb.name 0 (by omega)
  go_enter Try.func33, Try.ntmps33
  go_wp2_with (go_at_call 40; refine (inName_yes _ _ hn).mono ?_; rintro e w' ⟨rfl, rfl⟩)
  go_ret2
  exact ⟨rfl, ((hb.set_st 5).set_name 0 (by omega) c).set_n 1, ((((Only.refl _ _).set _ _).set _ _).set _ _)⟩

set_option maxRecDepth 100000 in
set_option maxHeartbeats 800000 in
theorem r0_no (b : Nat) (r : R) (c : Int) (w : World) (hb : Box b r w) (ht : r.st = 0) (h0 : 0 ≤ c) (h1 : c ≤ 255) (h35 : (c == 35) = false) (hn : nm c = false) :
    Calls Try.prog 33 #[.pointer (some ⟨b, 0, none⟩), .int .u8 c] w fun e w' => e = .returned (.tuple #[.bool true, .bool false]) ∧ Box b r w' ∧ Only b w w' := by
  have hf := hb.free
  have h_st := hb.st
  rw [ht] at h_st
  clear ht
  go_enter Try.func33, Try.ntmps33
  go_wp2_with (go_at_call 40; refine (inName_no _ _ hn).mono ?_; rintro e w' ⟨rfl, rfl⟩)
  go_ret2
  exact ⟨rfl, hb, (Only.refl _ _)⟩

set_option maxRecDepth 100000 in
set_option maxHeartbeats 800000 in
theorem r1_dig (b : Nat) (r : R) (c : Int) (w : World) (hb : Box b r w) (ht : r.st = 1) (h0 : 0 ≤ c) (h1 : c ≤ 255) (d0 : 48 ≤ c) (d1 : c ≤ 57) :
    Calls Try.prog 33 #[.pointer (some ⟨b, 0, none⟩), .int .u8 c] w fun e w' => e = .returned (.tuple #[.bool false, .bool true]) ∧ Box b { r with st := 3, value := c - 48 } w' ∧ Only b w w' := by
  have hf := hb.free
  have h_st := hb.st
  have h_value := hb.value
  rw [ht] at h_st
  clear ht
  go_enter Try.func33, Try.ntmps33
  go_wp2
  go_ret2
  exact ⟨rfl, (hb.set_st 3).set_value (c - 48), (((Only.refl _ _).set _ _).set _ _)⟩

set_option maxRecDepth 100000 in
set_option maxHeartbeats 800000 in
theorem r1_120 (b : Nat) (r : R) (w : World) (hb : Box b r w) (ht : r.st = 1) :
    Calls Try.prog 33 #[.pointer (some ⟨b, 0, none⟩), .int .u8 120] w fun e w' => e = .returned (.tuple #[.bool false, .bool true]) ∧ Box b { r with st := 2 } w' ∧ Only b w w' := by
  have hf := hb.free
  have h_st := hb.st
  rw [ht] at h_st
  clear ht
  obtain ⟨u, hu⟩ := hb.x
  go_enter Try.func33, Try.ntmps33
  go_wp2
  go_ret2
  exact ⟨rfl, (hb.set_st 2).set_x 120, (((Only.refl _ _).set _ _).set _ _)⟩

set_option maxRecDepth 100000 in
set_option maxHeartbeats 800000 in
theorem r1_88 (b : Nat) (r : R) (w : World) (hb : Box b r w) (ht : r.st = 1) :
    Calls Try.prog 33 #[.pointer (some ⟨b, 0, none⟩), .int .u8 88] w fun e w' => e = .returned (.tuple #[.bool false, .bool true]) ∧ Box b { r with st := 2 } w' ∧ Only b w w' := by
  have hf := hb.free
  have h_st := hb.st
  rw [ht] at h_st
  clear ht
  obtain ⟨u, hu⟩ := hb.x
  go_enter Try.func33, Try.ntmps33
  go_wp2
  go_ret2
  exact ⟨rfl, (hb.set_st 2).set_x 88, (((Only.refl _ _).set _ _).set _ _)⟩

set_option maxRecDepth 100000 in
set_option maxHeartbeats 800000 in
theorem r1_no_lo (b : Nat) (r : R) (c : Int) (w : World) (hb : Box b r w) (ht : r.st = 1) (h0 : 0 ≤ c) (h1 : c ≤ 255) (d0 : c < 48) (x1 : (c == 120) = false) (x2 : (c == 88) = false) :
    Calls Try.prog 33 #[.pointer (some ⟨b, 0, none⟩), .int .u8 c] w fun e w' => e = .returned (.tuple #[.bool true, .bool false]) ∧ Box b r w' ∧ Only b w w' := by
  have hf := hb.free
  have h_st := hb.st
  rw [ht] at h_st
  clear ht
  go_enter Try.func33, Try.ntmps33
  go_wp2
  go_ret2
  exact ⟨rfl, hb, (Only.refl _ _)⟩

set_option maxRecDepth 100000 in
set_option maxHeartbeats 800000 in
theorem r1_no_hi (b : Nat) (r : R) (c : Int) (w : World) (hb : Box b r w) (ht : r.st = 1) (h0 : 0 ≤ c) (h1 : c ≤ 255) (d0 : decide (c ≤ 57) = false) (d1 : 57 < c) (x1 : (c == 120) = false) (x2 : (c == 88) = false) :
    Calls Try.prog 33 #[.pointer (some ⟨b, 0, none⟩), .int .u8 c] w fun e w' => e = .returned (.tuple #[.bool true, .bool false]) ∧ Box b r w' ∧ Only b w w' := by
  have hf := hb.free
  have h_st := hb.st
  rw [ht] at h_st
  clear ht
  go_enter Try.func33, Try.ntmps33
  go_wp2
  go_ret2
  exact ⟨rfl, hb, (Only.refl _ _)⟩

set_option maxRecDepth 100000 in
set_option maxHeartbeats 800000 in
theorem r2_hex (b : Nat) (r : R) (c : Int) (w : World) (hb : Box b r w) (ht : r.st = 2) (h0 : 0 ≤ c) (h1 : c ≤ 255) (hh : 0 ≤ hx c) :
    Calls Try.prog 33 #[.pointer (some ⟨b, 0, none⟩), .int .u8 c] w fun e w' => e = .returned (.tuple #[.bool false, .bool true]) ∧ Box b { r with st := 4, value := hx c } w' ∧ Only b w w' := by
  have hf := hb.free
  have h_st := hb.st
  have h_value := hb.value
  rw [ht] at h_st
  clear ht
  go_enter Try.func33, Try.ntmps33
  go_wp2_with (go_at_call 41; refine (hex_yes _ _ h0 h1 hh).mono ?_; rintro e w' ⟨rfl, rfl⟩)
  go_ret2
  exact ⟨rfl, (hb.set_st 4).set_value (hx c), (((Only.refl _ _).set _ _).set _ _)⟩

set_option maxRecDepth 100000 in
set_option maxHeartbeats 800000 in
theorem r2_no (b : Nat) (r : R) (c : Int) (w : World) (hb : Box b r w) (ht : r.st = 2) (h0 : 0 ≤ c) (h1 : c ≤ 255) (hh : hx c < 0) :
    Calls Try.prog 33 #[.pointer (some ⟨b, 0, none⟩), .int .u8 c] w fun e w' => e = .returned (.tuple #[.bool true, .bool false]) ∧ Box b r w' ∧ Only b w w' := by
  have hf := hb.free
  have h_st := hb.st
  rw [ht] at h_st
  clear ht
  go_enter Try.func33, Try.ntmps33
  go_wp2_with (go_at_call 41; refine (hex_no _ _ h0 h1 hh).mono ?_; rintro e w' ⟨rfl, rfl⟩)
  go_ret2
  exact ⟨rfl, hb, (Only.refl _ _)⟩

set_option maxRecDepth 100000 in
set_option maxHeartbeats 800000 in
theorem r3_lo (b : Nat) (r : R) (c : Int) (w : World) (hb : Box b r w) (ht : r.st = 3) (h0 : 0 ≤ c) (h1 : c ≤ 255) (d0 : 48 ≤ c) (d1 : c ≤ 57) (v0 : 0 ≤ r.value) (v1 : r.value ≤ 1114112) (m : r.value * 10 + (c - 48) ≤ 1114112) :
    Calls Try.prog 33 #[.pointer (some ⟨b, 0, none⟩), .int .u8 c] w fun e w' => e = .returned (.tuple #[.bool false, .bool true]) ∧ Box b { r with value := r.value * 10 + (c - 48) } w' ∧ Only b w w' := by
  have hf := hb.free
  have h_st := hb.st
  have h_value := hb.value
  rw [ht] at h_st
  clear ht
  go_enter Try.func33, Try.ntmps33
  go_wp2
  go_ret2
  exact ⟨rfl, hb.set_value (r.value * 10 + (c - 48)), ((Only.refl _ _).set _ _)⟩

set_option maxRecDepth 100000 in
set_option maxHeartbeats 800000 in
theorem r3_hi (b : Nat) (r : R) (c : Int) (w : World) (hb : Box b r w) (ht : r.st = 3) (h0 : 0 ≤ c) (h1 : c ≤ 255) (d0 : 48 ≤ c) (d1 : c ≤ 57) (v0 : 0 ≤ r.value) (v1 : r.value ≤ 1114112) (m : 1114112 < r.value * 10 + (c - 48)) :
    Calls Try.prog 33 #[.pointer (some ⟨b, 0, none⟩), .int .u8 c] w fun e w' => e = .returned (.tuple #[.bool false, .bool true]) ∧ Box b { r with value := 1114112 } w' ∧ Only b w w' := by
  have hf := hb.free
  have h_st := hb.st
  have h_value := hb.value
  rw [ht] at h_st
  clear ht
  go_enter Try.func33, Try.ntmps33
  go_wp2
  go_ret2
  exact ⟨rfl, hb.set_value 1114112, ((Only.refl _ _).set _ _)⟩

set_option maxRecDepth 100000 in
set_option maxHeartbeats 800000 in
theorem r3_end_a (b : Nat) (r : R) (c : Int) (w : World) (hb : Box b r w) (ht : r.st = 3) (h0 : 0 ≤ c) (h1 : c ≤ 255) (v : Bool) (hv : (c == 59) = v) (d0 : c < 48) :
    Calls Try.prog 33 #[.pointer (some ⟨b, 0, none⟩), .int .u8 c] w fun e w' => e = .returned (.tuple #[.bool true, .bool v]) ∧ Box b r w' ∧ Only b w w' := by
  have hf := hb.free
  have h_st := hb.st
  rw [ht] at h_st
  clear ht
  go_enter Try.func33, Try.ntmps33
  go_wp2_with (go_at_call 42; refine (end_any b r _ v _ hb hv).mono ?_; rintro e w1 ⟨rfl, hb1, ho1⟩)
  go_ret2
  exact ⟨rfl, hb1, ho1⟩

set_option maxRecDepth 100000 in
set_option maxHeartbeats 800000 in
theorem r3_end_b (b : Nat) (r : R) (c : Int) (w : World) (hb : Box b r w) (ht : r.st = 3) (h0 : 0 ≤ c) (h1 : c ≤ 255) (v : Bool) (hv : (c == 59) = v) (d0 : decide (c ≤ 57) = false) (d1 : 57 < c) :
    Calls Try.prog 33 #[.pointer (some ⟨b, 0, none⟩), .int .u8 c] w fun e w' => e = .returned (.tuple #[.bool true, .bool v]) ∧ Box b r w' ∧ Only b w w' := by
  have hf := hb.free
  have h_st := hb.st
  rw [ht] at h_st
  clear ht
  go_enter Try.func33, Try.ntmps33
  go_wp2_with (go_at_call 42; refine (end_any b r _ v _ hb hv).mono ?_; rintro e w1 ⟨rfl, hb1, ho1⟩)
  go_ret2
  exact ⟨rfl, hb1, ho1⟩

set_option maxRecDepth 100000 in
set_option maxHeartbeats 800000 in
theorem r4_lo (b : Nat) (r : R) (c : Int) (w : World) (hb : Box b r w) (ht : r.st = 4) (h0 : 0 ≤ c) (h1 : c ≤ 255) (hh : 0 ≤ hx c) (hh2 : hx c ≤ 15) (v0 : 0 ≤ r.value) (v1 : r.value ≤ 1114112) (m : r.value * 16 + hx c ≤ 1114112) :
    Calls Try.prog 33 #[.pointer (some ⟨b, 0, none⟩), .int .u8 c] w fun e w' => e = .returned (.tuple #[.bool false, .bool true]) ∧ Box b { r with value := r.value * 16 + hx c } w' ∧ Only b w w' := by
  have hf := hb.free
  have h_st := hb.st
  have h_value := hb.value
  rw [ht] at h_st
  clear ht
  go_enter Try.func33, Try.ntmps33
  go_wp2_with (go_at_call 41; refine (hex_yes _ _ h0 h1 hh).mono ?_; rintro e w' ⟨rfl, rfl⟩)
  go_ret2
  exact ⟨rfl, hb.set_value (r.value * 16 + hx c), ((Only.refl _ _).set _ _)⟩

set_option maxRecDepth 100000 in
set_option maxHeartbeats 800000 in
theorem r4_hi (b : Nat) (r : R) (c : Int) (w : World) (hb : Box b r w) (ht : r.st = 4) (h0 : 0 ≤ c) (h1 : c ≤ 255) (hh : 0 ≤ hx c) (hh2 : hx c ≤ 15) (v0 : 0 ≤ r.value) (v1 : r.value ≤ 1114112) (m : 1114112 < r.value * 16 + hx c) :
    Calls Try.prog 33 #[.pointer (some ⟨b, 0, none⟩), .int .u8 c] w fun e w' => e = .returned (.tuple #[.bool false, .bool true]) ∧ Box b { r with value := 1114112 } w' ∧ Only b w w' := by
  have hf := hb.free
  have h_st := hb.st
  have h_value := hb.value
  rw [ht] at h_st
  clear ht
  go_enter Try.func33, Try.ntmps33
  go_wp2_with (go_at_call 41; refine (hex_yes _ _ h0 h1 hh).mono ?_; rintro e w' ⟨rfl, rfl⟩)
  go_ret2
  exact ⟨rfl, hb.set_value 1114112, ((Only.refl _ _).set _ _)⟩

set_option maxRecDepth 100000 in
set_option maxHeartbeats 800000 in
theorem r4_end (b : Nat) (r : R) (c : Int) (w : World) (hb : Box b r w) (ht : r.st = 4) (h0 : 0 ≤ c) (h1 : c ≤ 255) (v : Bool) (hv : (c == 59) = v) (hh : hx c < 0) :
    Calls Try.prog 33 #[.pointer (some ⟨b, 0, none⟩), .int .u8 c] w fun e w' => e = .returned (.tuple #[.bool true, .bool v]) ∧ Box b r w' ∧ Only b w w' := by
  have hf := hb.free
  have h_st := hb.st
  rw [ht] at h_st
  clear ht
  go_enter Try.func33, Try.ntmps33
  go_wp2_with (first | (go_at_call 41; refine (hex_no _ _ h0 h1 hh).mono ?_; rintro e w' ⟨rfl, rfl⟩) | (go_at_call 42; refine (end_any b r _ v _ hb hv).mono ?_; rintro e w1 ⟨rfl, hb1, ho1⟩))
  go_ret2
  exact ⟨rfl, hb1, ho1⟩

set_option maxRecDepth 100000 in
set_option maxHeartbeats 800000 in
theorem r5_name (b : Nat) (r : R) (c : Int) (w : World) (hb : Box b r w) (ht : r.st = 5) (h0 : 0 ≤ c) (h1 : c ≤ 255) (hn : nm c = true) (hl : r.n < 32) :
    Calls Try.prog 33 #[.pointer (some ⟨b, 0, none⟩), .int .u8 c] w fun e w' => e = .returned (.tuple #[.bool false, .bool true]) ∧ Box b { r with name := put r.name r.n c, n := r.n + 1 } w' ∧ Only b w w' := by
  have hf := hb.free
  have h_st := hb.st
  have h_n := hb.n
  rw [ht] at h_st
  clear ht
  have h_nm := hb.name r.n hl
  go_enter Try.func33, Try.ntmps33
  go_wp2_with (go_at_call 40; refine (inName_yes _ _ hn).mono ?_; rintro e w' ⟨rfl, rfl⟩)
  go_region
  all_goals (try go_wp2)
  all_goals
    go_ret2
    exact ⟨rfl, ((hb.set_name r.n hl c).set_n (r.n + 1)).drew, (((((Only.refl _ _).set _ _).set _ _)).drew)⟩

set_option maxRecDepth 100000 in
set_option maxHeartbeats 800000 in
theorem r5_full (b : Nat) (r : R) (c : Int) (w : World) (hb : Box b r w) (ht : r.st = 5) (h0 : 0 ≤ c) (h1 : c ≤ 255) (v : Bool) (hv : (c == 59) = v) (hn : nm c = true) (hl : 32 ≤ r.n) (hl2 : r.n ≤ 1000000) :
    Calls Try.prog 33 #[.pointer (some ⟨b, 0, none⟩), .int .u8 c] w fun e w' => e = .returned (.tuple #[.bool true, .bool v]) ∧ Box b r w' ∧ Only b w w' := by
  have hf := hb.free
  have h_st := hb.st
  have h_n := hb.n
  rw [ht] at h_st
  clear ht
  go_enter Try.func33, Try.ntmps33
  go_wp2_with (first | (go_at_call 40; refine (inName_yes _ _ hn).mono ?_; rintro e w' ⟨rfl, rfl⟩) | (go_at_call 42; refine (end_any b r _ v _ hb hv).mono ?_; rintro e w1 ⟨rfl, hb1, ho1⟩))
  go_ret2
  exact ⟨rfl, hb1, ho1⟩

set_option maxRecDepth 100000 in
set_option maxHeartbeats 800000 in
theorem r5_end (b : Nat) (r : R) (c : Int) (w : World) (hb : Box b r w) (ht : r.st = 5) (h0 : 0 ≤ c) (h1 : c ≤ 255) (v : Bool) (hv : (c == 59) = v) (hn : nm c = false) :
    Calls Try.prog 33 #[.pointer (some ⟨b, 0, none⟩), .int .u8 c] w fun e w' => e = .returned (.tuple #[.bool true, .bool v]) ∧ Box b r w' ∧ Only b w w' := by
  have hf := hb.free
  have h_st := hb.st
  have h_n := hb.n
  rw [ht] at h_st
  clear ht
  go_enter Try.func33, Try.ntmps33
  go_wp2_with (first | (go_at_call 40; refine (inName_no _ _ hn).mono ?_; rintro e w' ⟨rfl, rfl⟩) | (go_at_call 42; refine (end_any b r _ v _ hb hv).mono ?_; rintro e w1 ⟨rfl, hb1, ho1⟩))
  go_ret2
  exact ⟨rfl, hb1, ho1⟩

end Ref
end Go.Proofs.Qxb6000730a

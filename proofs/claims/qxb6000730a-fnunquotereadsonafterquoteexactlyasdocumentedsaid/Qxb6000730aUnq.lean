/-
  unquote, ZZUnquote; the bounds' functions of the two laws over an open tag.
-/
import Derived.Test.Qxb6000730aOpenTag
namespace Go.Proofs.Qxb6000730a
open Go.ChangeShapes Go.WideShapes Go.ChangeAt Go.RowKit
namespace Open
open Num (lst)
open Tag (M Box)
set_option linter.unusedVariables false

set_option maxRecDepth 100000 in
theorem unq_out (b : Nat) (m : M) (w : World) (hb : Box b m w) (ht : m.tag = 1) : Calls Try.prog 39 #[.pointer (some ⟨b, 0, none⟩)] w fun e w' => e = .returned (.tuple #[.int .i64 0, .bool false]) ∧ w = w' := by
  have h0 := hb.kind
  have h14 := hb.tag
  rw [ht] at h14
  clear ht
  go_enter Try.func39, Try.ntmps39
  go_wp2
  go_ret2
  exact ⟨rfl, rfl⟩

set_option maxRecDepth 100000 in
set_option maxHeartbeats 800000 in
theorem unq_no (b : Nat) (m : M) (w : World) (hb : Box b m w) (ht : m.tag = 7) (hr : m.reread = true) (ha : m.quotedAfter = false) (he : m.equals = 1) (hs : m.spaced = false) (hn : m.nameQuote = false) : Calls Try.prog 39 #[.pointer (some ⟨b, 0, none⟩)] w fun e w' => e = .returned (.tuple #[.int .i64 0, .bool false]) ∧ Only b w w' := by
  have hf := hb.free
  have h0 := hb.kind
  have h14 := hb.tag
  have h15 := hb.equals
  have h16 := hb.spaced
  have h17 := hb.nameQuote
  have h21 := hb.quotedAfter
  have h22 := hb.reread
  rw [ht] at h14
  rw [he] at h15
  rw [hs] at h16
  rw [hn] at h17
  rw [ha] at h21
  rw [hr] at h22
  clear ht he hs hn ha hr
  go_enter Try.func39, Try.ntmps39
  go_wp2
  go_ret2
  exact ⟨rfl, (Only.refl _ _).set _ _⟩

set_option maxRecDepth 100000 in
set_option maxHeartbeats 1600000 in
theorem unq_yes (b : Nat) (m : M) (w : World) (hb : Box b m w) (ht : m.tag = 7) (hr : m.reread = true) (hq0 : 0 ≤ m.quotedAt) (hq1 : m.quotedAt ≤ 10000000) (he0 : 1 ≤ m.equals) (he1 : m.equals ≤ 1000000) (hy : m.quotedAfter = true ∨ 1 < m.equals ∨ m.spaced = true ∨ m.nameQuote = true) :
    Calls Try.prog 39 #[.pointer (some ⟨b, 0, none⟩)] w fun e w' => e = .returned (.tuple #[.int .i64 (m.quotedAt + 1), .bool true]) ∧ Only b w w' := by
  have hf := hb.free
  have h0 := hb.kind
  have h14 := hb.tag
  have h15 := hb.equals
  have h16 := hb.spaced
  have h17 := hb.nameQuote
  have h20 := hb.quotedAt
  have h21 := hb.quotedAfter
  have h22 := hb.reread
  rw [ht] at h14
  rw [hr] at h22
  clear ht hr
  cases ha : m.quotedAfter with
  | true =>
    rw [ha] at h21
    clear ha hy
    go_enter Try.func39, Try.ntmps39
    go_wp2
    go_ret2
    exact ⟨rfl, (((Only.refl _ _).set _ _).set _ _).set _ _⟩
  | false =>
    rw [ha] at h21
    by_cases hq : 1 < m.equals
    · clear ha hy
      go_enter Try.func39, Try.ntmps39
      go_wp2
      go_ret2
      exact ⟨rfl, ((Only.refl _ _).set _ _).set _ _⟩
    · cases hs : m.spaced with
      | true =>
        rw [hs] at h16
        clear ha hy hs
        go_enter Try.func39, Try.ntmps39
        go_wp2
        go_ret2
        exact ⟨rfl, (((Only.refl _ _).set _ _).set _ _).set _ _⟩
      | false =>
        have hn : m.nameQuote = true := by
          rcases hy with h | h | h | h
          · rw [ha] at h; cases h
          · omega
          · rw [hs] at h; cases h
          · exact h
        rw [hs] at h16
        rw [hn] at h17
        clear ha hy hs hn
        go_enter Try.func39, Try.ntmps39
        go_wp2
        go_ret2
        exact ⟨rfl, (((Only.refl _ _).set _ _).set _ _).set _ _⟩

theorem zzUnq_out (b : Nat) (m : M) (w : World) (hb : Box b m w) (ht : m.tag = 1) : Calls Try.prog 29 #[.pointer (some ⟨b, 0, none⟩)] w fun e w' => e = .returned (.tuple #[.int .i64 0, .bool false]) ∧ Only b w w' := by
  go_enter Try.func29, Try.ntmps29
  go_wp2_with (go_at_call 39; refine (unq_out b m w hb ht).mono ?_; rintro e w' ⟨rfl, rfl⟩)
  go_ret2
  exact ⟨rfl, Only.refl _ _⟩
theorem zzUnq_no (b : Nat) (m : M) (w : World) (hb : Box b m w) (ht : m.tag = 7) (hr : m.reread = true) (ha : m.quotedAfter = false) (he : m.equals = 1) (hs : m.spaced = false) (hn : m.nameQuote = false) : Calls Try.prog 29 #[.pointer (some ⟨b, 0, none⟩)] w fun e w' => e = .returned (.tuple #[.int .i64 0, .bool false]) ∧ Only b w w' := by
  have hc := unq_no b m w hb ht hr ha he hs hn
  clear ht hr ha he hs hn
  go_enter Try.func29, Try.ntmps29
  go_wp2_with (go_at_call 39; refine hc.mono ?_; rintro e w' ⟨rfl, ho⟩)
  go_ret2
  exact ⟨rfl, ho⟩
theorem zzUnq_yes (b : Nat) (m : M) (w : World) (hb : Box b m w) (ht : m.tag = 7) (hr : m.reread = true) (qa : Int) (hqa : m.quotedAt = qa) (hq0 : 0 ≤ qa) (hq1 : qa ≤ 10000000) (he0 : 1 ≤ m.equals) (he1 : m.equals ≤ 1000000) (hy : m.quotedAfter = true ∨ 1 < m.equals ∨ m.spaced = true ∨ m.nameQuote = true) :
    Calls Try.prog 29 #[.pointer (some ⟨b, 0, none⟩)] w fun e w' => e = .returned (.tuple #[.int .i64 (qa + 1), .bool true]) ∧ Only b w w' := by
  have hc := unq_yes b m w hb ht hr (by omega) (by omega) he0 he1 hy
  rw [hqa] at hc
  clear ht hr hqa he0 he1 hy
  go_enter Try.func29, Try.ntmps29
  go_wp2_with (go_at_call 39; refine hc.mono ?_; rintro e w' ⟨rfl, ho⟩)
  go_ret2
  exact ⟨rfl, ho⟩

end Open
end Go.Proofs.Qxb6000730a

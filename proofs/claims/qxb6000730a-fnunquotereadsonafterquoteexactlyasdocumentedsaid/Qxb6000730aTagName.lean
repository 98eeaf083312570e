/-
  addName: by its contract.
-/
import Derived.Test.Qxb6000730aTag
namespace Go.Proofs.Qxb6000730a
open Go.ChangeShapes Go.WideShapes Go.ChangeAt Go.RowKit
namespace Tag

set_option maxHeartbeats 400000 in
theorem addName_long (b : Nat) (m : M) (c : Int) (w : World) (hb : Box b m w) (h8 : 8 ≤ m.named) (hm : m.named ≤ 1000000) :
    Calls Try.prog 44 #[.pointer (some ⟨b, 0, none⟩), .int .u8 c] w fun e w' => e = .returned (.tuple #[]) ∧ Box b { m with named := m.named + 1, last := c } w' ∧ Only b w w' := by
  have hf := hb.free
  have h10 := hb.named
  have h11 := hb.last
  go_enter Try.func44, Try.ntmps44
  go_wp2
  go_end0
  exact ⟨rfl, (hb.set_named _).set_last _, ((Only.refl _ _).set _ _).set _ _⟩

set_option maxHeartbeats 400000 in
theorem addName_short (b : Nat) (m : M) (c : Int) (w : World) (hb : Box b m w) (h0 : 0 ≤ c) (h1 : c ≤ 255) (k : Nat) (hk : m.named = (k : Int)) (h8 : k < 8) :
    Calls Try.prog 44 #[.pointer (some ⟨b, 0, none⟩), .int .u8 c] w fun e w' => e = .returned (.tuple #[]) ∧ Box b { m with named := m.named + 1, last := c } w' ∧ Only b w w' := by
  have hf := hb.free
  have h10 := hb.named
  have h11 := hb.last
  rw [hk] at h10
  obtain ⟨u, hu⟩ := hb.name k h8
  have HK : Hid (m.named = (k : Int)) := hk
  clear hk
  go_enter Try.func44, Try.ntmps44
  go_wp2
  go_region_with (go_at_call 45; refine (Leaf.lower_any _ _ h0 h1).mono ?_; rintro e w' ⟨⟨v, rfl⟩, rfl⟩)
  all_goals go_wp2
  all_goals
    go_end0
    exact ⟨rfl, by rw [HK.out]; exact ((((hb.setNm k h8 v).set_named _).set_last _).drew), ((((Only.refl _ _).set _ _).set _ _).set _ _).drew⟩

theorem addName_any (b : Nat) (m : M) (c : Int) (w : World) (hb : Box b m w) (h0 : 0 ≤ c) (h1 : c ≤ 255) (hn : 0 ≤ m.named) (hm : m.named ≤ 1000000) :
    Calls Try.prog 44 #[.pointer (some ⟨b, 0, none⟩), .int .u8 c] w fun e w' => e = .returned (.tuple #[]) ∧ Box b { m with named := m.named + 1, last := c } w' ∧ Only b w w' := by
  by_cases h : 8 ≤ m.named
  · exact addName_long b m c w hb h hm
  · exact addName_short b m c w hb h0 h1 m.named.toNat (by omega) (by omega)
end Tag
end Go.Proofs.Qxb6000730a

/-
  A start tag's reader as a plain function: what tagStep makes of a byte; the cells of a markup; 'Only': no block but one has turned.
-/
import Derived.Test.Qxb6000730aLeaf
import Derived.RegionTactic
import Derived.Deep.RegionWith
namespace Go.Proofs.Qxb6000730a
open Go.ChangeShapes Go.WideShapes Go.ChangeAt Go.RowKit

/-- Nothing but block b has turned, and no block was made. -/
structure Only (b : Nat) (w w' : World) : Prop where
  os : w'.os = w.os
  tape : w'.tape = w.tape
  output : w'.output = w.output
  size : w'.heap.size = w.heap.size
  block : ∀ k, k ≠ b → w'.heap[k]? = w.heap[k]?

theorem Only.refl (b : Nat) (w : World) : Only b w w := ⟨rfl, rfl, rfl, rfl, fun _ _ => rfl⟩
theorem Only.trans {b : Nat} {u v w : World} (h : Only b u v) (k : Only b v w) : Only b u w :=
  ⟨k.os.trans h.os, k.tape.trans h.tape, k.output.trans h.output, k.size.trans h.size, fun i hi => (k.block i hi).trans (h.block i hi)⟩
theorem Only.set {b : Nat} {w w' : World} (h : Only b w w') (o : Nat) (v : Value) : Only b w (w'.setCell ⟨b, o, none⟩ v) :=
  h.trans ⟨rfl, rfl, rfl, by simp, fun k hk => heap_setCell_other _ _ _ _ hk⟩
theorem Only.drew {b : Nat} {w w' : World} (h : Only b w w') : Only b w w'.drew := ⟨h.os, h.tape, h.output, h.size, h.block⟩
theorem Only.below {b B : Nat} {w w' : World} (h : Only b w w') (hB : B ≤ b) : Below B w w' :=
  ⟨h.os, h.tape, h.output, by rw [h.size]; exact Nat.le_refl _, fun k hk => h.block k (by omega)⟩
theorem Only.cell {b : Nat} {w w' : World} (h : Only b w w') (k o : Nat) (hk : k ≠ b) : w'.cell? ⟨k, o, none⟩ = w.cell? ⟨k, o, none⟩ :=
  World.cell?_of_block (w := w) (h.block k hk)

namespace Tag

structure M where
  named : Int
  last : Int
  tag : Int
  equals : Int
  spaced : Bool
  nameQuote : Bool
  slash : Bool
  quote : Int
  quotedAt : Int
  quotedAfter : Bool
  reread : Bool

def q (c : Int) : Bool := decide (c = 39 ∨ c = 34)

def step (m : M) (c held : Int) (long : Bool) : M × Int :=
  if m.tag = 0 then
    if c = 9 ∨ c = 10 ∨ c = 13 ∨ c = 12 ∨ c = 32 then ({ m with tag := 1 }, 0)
    else if c = 47 then ({ m with tag := 2 }, 0)
    else if c = 62 then (m, 1)
    else if c = 0 then
      (if m.last = 39 ∨ m.last = 34 ∨ Leaf.sp m.last = true then ({ m with tag := 3, nameQuote := false }, 0)
       else if long = false then (m, 3) else ({ m with named := m.named + 1, last := c }, 0))
    else ({ m with named := m.named + 1, last := c }, 0)
  else if m.tag = 1 then
    if c = 47 then ({ m with tag := 2 }, 0)
    else if c = 62 then (m, 1)
    else if Leaf.sp c = false then ({ m with tag := 3, nameQuote := q c }, 0)
    else (m, 0)
  else if m.tag = 2 then
    if c = 62 then ({ m with slash := true }, 1)
    else if Leaf.sp c = true then ({ m with tag := 1 }, 0)
    else if c = 47 then (m, 0)
    else ({ m with tag := 3, nameQuote := q c }, 0)
  else if m.tag = 3 ∨ m.tag = 4 then
    if c = 61 then ({ m with tag := 5, equals := 1, spaced := decide (m.tag = 4) }, 0)
    else if c = 47 then ({ m with tag := 2 }, 0)
    else if c = 62 then (m, 1)
    else if Leaf.sp c = true then ({ m with tag := 4 }, 0)
    else ({ m with tag := 3, nameQuote := q c }, 0)
  else if m.tag = 5 ∨ m.tag = 6 then
    if c = 61 ∧ m.tag = 5 then ({ m with equals := m.equals + 1 }, 0)
    else if c = 39 ∨ c = 34 then ({ m with quotedAt := held, quotedAfter := decide (m.tag = 6), reread := !long, tag := 7, quote := c }, 0)
    else if c = 62 then (m, 1)
    else if Leaf.sp c = true then ({ m with tag := 6 }, 0)
    else ({ m with tag := 8 }, 0)
  else if m.tag = 7 then
    if c = m.quote then ({ m with tag := 1, reread := false }, 0) else (m, 0)
  else if c = 62 then (m, 1)
  else if Leaf.sp c = true then ({ m with tag := 1 }, 0)
  else (m, 0)

/-- Block b holds the markup m: a start tag; its name's eight bytes are whatever they are. -/
structure Box (b : Nat) (m : M) (w : World) : Prop where
  free : ∀ o, w.frozen? ⟨b, o, none⟩ = false
  kind : w.cell? ⟨b, 0, none⟩ = some (.int .u8 1)
  name : ∀ j, j < 8 → ∃ v, w.cell? ⟨b, 2 + j, none⟩ = some (.int .u8 v)
  named : w.cell? ⟨b, 10, none⟩ = some (.int .i64 m.named)
  last : w.cell? ⟨b, 11, none⟩ = some (.int .u8 m.last)
  tag : w.cell? ⟨b, 14, none⟩ = some (.int .u8 m.tag)
  equals : w.cell? ⟨b, 15, none⟩ = some (.int .i64 m.equals)
  spaced : w.cell? ⟨b, 16, none⟩ = some (.bool m.spaced)
  nameQuote : w.cell? ⟨b, 17, none⟩ = some (.bool m.nameQuote)
  slash : w.cell? ⟨b, 18, none⟩ = some (.bool m.slash)
  quote : w.cell? ⟨b, 19, none⟩ = some (.int .u8 m.quote)
  quotedAt : w.cell? ⟨b, 20, none⟩ = some (.int .i64 m.quotedAt)
  quotedAfter : w.cell? ⟨b, 21, none⟩ = some (.bool m.quotedAfter)
  reread : w.cell? ⟨b, 22, none⟩ = some (.bool m.reread)

theorem other {w : World} {b o p : Nat} {v : Value} (h : o ≠ p) : (w.setCell ⟨b, o, none⟩ v).cell? ⟨b, p, none⟩ = w.cell? ⟨b, p, none⟩ :=
  World.cell?_setCell_other _ _ _ _ (fun e => h (congrArg Addr.off e))

theorem Box.setNm {b : Nat} {m : M} {w : World} (h : Box b m w) (j : Nat) (hj : j < 8) (v : Int) : Box b m (w.setCell ⟨b, 2 + j, none⟩ (.int .u8 v)) := by
  refine ⟨fun o => by simpa using h.free o, ?_, fun i hi => ?_, ?_, ?_, ?_, ?_, ?_, ?_, ?_, ?_, ?_, ?_, ?_⟩
  case refine_2 =>
    by_cases e : i = j
    · subst e
      obtain ⟨u, hu⟩ := h.name i hi
      exact ⟨v, World.cell?_setCell_same _ _ _ hu⟩
    · obtain ⟨u, hu⟩ := h.name i hi
      exact ⟨u, (other (by omega)).trans hu⟩
  all_goals first
    | exact (other (by omega)).trans h.kind | exact (other (by omega)).trans h.named | exact (other (by omega)).trans h.last | exact (other (by omega)).trans h.tag | exact (other (by omega)).trans h.equals
    | exact (other (by omega)).trans h.spaced | exact (other (by omega)).trans h.nameQuote | exact (other (by omega)).trans h.slash | exact (other (by omega)).trans h.quote | exact (other (by omega)).trans h.quotedAt
    | exact (other (by omega)).trans h.quotedAfter | exact (other (by omega)).trans h.reread
theorem Box.set_named {b : Nat} {m : M} {w : World} (h : Box b m w) (x : Int) : Box b { m with named := x } (w.setCell ⟨b, 10, none⟩ (.int .i64 x)) := by
  exact ⟨fun o => by simpa using h.free o, (other (by omega)).trans h.kind, fun j hj => by obtain ⟨u, hu⟩ := h.name j hj; exact ⟨u, (other (by omega)).trans hu⟩, World.cell?_setCell_same _ _ _ h.named, (other (by omega)).trans h.last, (other (by omega)).trans h.tag, (other (by omega)).trans h.equals, (other (by omega)).trans h.spaced, (other (by omega)).trans h.nameQuote, (other (by omega)).trans h.slash, (other (by omega)).trans h.quote, (other (by omega)).trans h.quotedAt, (other (by omega)).trans h.quotedAfter, (other (by omega)).trans h.reread⟩
theorem Box.set_last {b : Nat} {m : M} {w : World} (h : Box b m w) (x : Int) : Box b { m with last := x } (w.setCell ⟨b, 11, none⟩ (.int .u8 x)) := by
  exact ⟨fun o => by simpa using h.free o, (other (by omega)).trans h.kind, fun j hj => by obtain ⟨u, hu⟩ := h.name j hj; exact ⟨u, (other (by omega)).trans hu⟩, (other (by omega)).trans h.named, World.cell?_setCell_same _ _ _ h.last, (other (by omega)).trans h.tag, (other (by omega)).trans h.equals, (other (by omega)).trans h.spaced, (other (by omega)).trans h.nameQuote, (other (by omega)).trans h.slash, (other (by omega)).trans h.quote, (other (by omega)).trans h.quotedAt, (other (by omega)).trans h.quotedAfter, (other (by omega)).trans h.reread⟩
theorem Box.set_tag {b : Nat} {m : M} {w : World} (h : Box b m w) (x : Int) : Box b { m with tag := x } (w.setCell ⟨b, 14, none⟩ (.int .u8 x)) := by
  exact ⟨fun o => by simpa using h.free o, (other (by omega)).trans h.kind, fun j hj => by obtain ⟨u, hu⟩ := h.name j hj; exact ⟨u, (other (by omega)).trans hu⟩, (other (by omega)).trans h.named, (other (by omega)).trans h.last, World.cell?_setCell_same _ _ _ h.tag, (other (by omega)).trans h.equals, (other (by omega)).trans h.spaced, (other (by omega)).trans h.nameQuote, (other (by omega)).trans h.slash, (other (by omega)).trans h.quote, (other (by omega)).trans h.quotedAt, (other (by omega)).trans h.quotedAfter, (other (by omega)).trans h.reread⟩
theorem Box.set_equals {b : Nat} {m : M} {w : World} (h : Box b m w) (x : Int) : Box b { m with equals := x } (w.setCell ⟨b, 15, none⟩ (.int .i64 x)) := by
  exact ⟨fun o => by simpa using h.free o, (other (by omega)).trans h.kind, fun j hj => by obtain ⟨u, hu⟩ := h.name j hj; exact ⟨u, (other (by omega)).trans hu⟩, (other (by omega)).trans h.named, (other (by omega)).trans h.last, (other (by omega)).trans h.tag, World.cell?_setCell_same _ _ _ h.equals, (other (by omega)).trans h.spaced, (other (by omega)).trans h.nameQuote, (other (by omega)).trans h.slash, (other (by omega)).trans h.quote, (other (by omega)).trans h.quotedAt, (other (by omega)).trans h.quotedAfter, (other (by omega)).trans h.reread⟩
theorem Box.set_spaced {b : Nat} {m : M} {w : World} (h : Box b m w) (x : Bool) : Box b { m with spaced := x } (w.setCell ⟨b, 16, none⟩ (.bool x)) := by
  exact ⟨fun o => by simpa using h.free o, (other (by omega)).trans h.kind, fun j hj => by obtain ⟨u, hu⟩ := h.name j hj; exact ⟨u, (other (by omega)).trans hu⟩, (other (by omega)).trans h.named, (other (by omega)).trans h.last, (other (by omega)).trans h.tag, (other (by omega)).trans h.equals, World.cell?_setCell_same _ _ _ h.spaced, (other (by omega)).trans h.nameQuote, (other (by omega)).trans h.slash, (other (by omega)).trans h.quote, (other (by omega)).trans h.quotedAt, (other (by omega)).trans h.quotedAfter, (other (by omega)).trans h.reread⟩
theorem Box.set_nameQuote {b : Nat} {m : M} {w : World} (h : Box b m w) (x : Bool) : Box b { m with nameQuote := x } (w.setCell ⟨b, 17, none⟩ (.bool x)) := by
  exact ⟨fun o => by simpa using h.free o, (other (by omega)).trans h.kind, fun j hj => by obtain ⟨u, hu⟩ := h.name j hj; exact ⟨u, (other (by omega)).trans hu⟩, (other (by omega)).trans h.named, (other (by omega)).trans h.last, (other (by omega)).trans h.tag, (other (by omega)).trans h.equals, (other (by omega)).trans h.spaced, World.cell?_setCell_same _ _ _ h.nameQuote, (other (by omega)).trans h.slash, (other (by omega)).trans h.quote, (other (by omega)).trans h.quotedAt, (other (by omega)).trans h.quotedAfter, (other (by omega)).trans h.reread⟩
theorem Box.set_slash {b : Nat} {m : M} {w : World} (h : Box b m w) (x : Bool) : Box b { m with slash := x } (w.setCell ⟨b, 18, none⟩ (.bool x)) := by
  exact ⟨fun o => by simpa using h.free o, (other (by omega)).trans h.kind, fun j hj => by obtain ⟨u, hu⟩ := h.name j hj; exact ⟨u, (other (by omega)).trans hu⟩, (other (by omega)).trans h.named, (other (by omega)).trans h.last, (other (by omega)).trans h.tag, (other (by omega)).trans h.equals, (other (by omega)).trans h.spaced, (other (by omega)).trans h.nameQuote, World.cell?_setCell_same _ _ _ h.slash, (other (by omega)).trans h.quote, (other (by omega)).trans h.quotedAt, (other (by omega)).trans h.quotedAfter, (other (by omega)).trans h.reread⟩
theorem Box.set_quote {b : Nat} {m : M} {w : World} (h : Box b m w) (x : Int) : Box b { m with quote := x } (w.setCell ⟨b, 19, none⟩ (.int .u8 x)) := by
  exact ⟨fun o => by simpa using h.free o, (other (by omega)).trans h.kind, fun j hj => by obtain ⟨u, hu⟩ := h.name j hj; exact ⟨u, (other (by omega)).trans hu⟩, (other (by omega)).trans h.named, (other (by omega)).trans h.last, (other (by omega)).trans h.tag, (other (by omega)).trans h.equals, (other (by omega)).trans h.spaced, (other (by omega)).trans h.nameQuote, (other (by omega)).trans h.slash, World.cell?_setCell_same _ _ _ h.quote, (other (by omega)).trans h.quotedAt, (other (by omega)).trans h.quotedAfter, (other (by omega)).trans h.reread⟩
theorem Box.set_quotedAt {b : Nat} {m : M} {w : World} (h : Box b m w) (x : Int) : Box b { m with quotedAt := x } (w.setCell ⟨b, 20, none⟩ (.int .i64 x)) := by
  exact ⟨fun o => by simpa using h.free o, (other (by omega)).trans h.kind, fun j hj => by obtain ⟨u, hu⟩ := h.name j hj; exact ⟨u, (other (by omega)).trans hu⟩, (other (by omega)).trans h.named, (other (by omega)).trans h.last, (other (by omega)).trans h.tag, (other (by omega)).trans h.equals, (other (by omega)).trans h.spaced, (other (by omega)).trans h.nameQuote, (other (by omega)).trans h.slash, (other (by omega)).trans h.quote, World.cell?_setCell_same _ _ _ h.quotedAt, (other (by omega)).trans h.quotedAfter, (other (by omega)).trans h.reread⟩
theorem Box.set_quotedAfter {b : Nat} {m : M} {w : World} (h : Box b m w) (x : Bool) : Box b { m with quotedAfter := x } (w.setCell ⟨b, 21, none⟩ (.bool x)) := by
  exact ⟨fun o => by simpa using h.free o, (other (by omega)).trans h.kind, fun j hj => by obtain ⟨u, hu⟩ := h.name j hj; exact ⟨u, (other (by omega)).trans hu⟩, (other (by omega)).trans h.named, (other (by omega)).trans h.last, (other (by omega)).trans h.tag, (other (by omega)).trans h.equals, (other (by omega)).trans h.spaced, (other (by omega)).trans h.nameQuote, (other (by omega)).trans h.slash, (other (by omega)).trans h.quote, (other (by omega)).trans h.quotedAt, World.cell?_setCell_same _ _ _ h.quotedAfter, (other (by omega)).trans h.reread⟩
theorem Box.set_reread {b : Nat} {m : M} {w : World} (h : Box b m w) (x : Bool) : Box b { m with reread := x } (w.setCell ⟨b, 22, none⟩ (.bool x)) := by
  exact ⟨fun o => by simpa using h.free o, (other (by omega)).trans h.kind, fun j hj => by obtain ⟨u, hu⟩ := h.name j hj; exact ⟨u, (other (by omega)).trans hu⟩, (other (by omega)).trans h.named, (other (by omega)).trans h.last, (other (by omega)).trans h.tag, (other (by omega)).trans h.equals, (other (by omega)).trans h.spaced, (other (by omega)).trans h.nameQuote, (other (by omega)).trans h.slash, (other (by omega)).trans h.quote, (other (by omega)).trans h.quotedAt, (other (by omega)).trans h.quotedAfter, World.cell?_setCell_same _ _ _ h.reread⟩
theorem Box.drew {b : Nat} {m : M} {w : World} (h : Box b m w) : Box b m w.drew := ⟨h.free, h.kind, h.name, h.named, h.last, h.tag, h.equals, h.spaced, h.nameQuote, h.slash, h.quote, h.quotedAt, h.quotedAfter, h.reread⟩

end Tag
end Go.Proofs.Qxb6000730a

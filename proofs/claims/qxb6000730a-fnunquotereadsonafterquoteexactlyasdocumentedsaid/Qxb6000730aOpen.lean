/-
  An open start tag, plainly: what the reader comes to behind 'name key = q val'.
-/
import Derived.Test.Qxb6000730aTagNew
namespace Go.Proofs.Qxb6000730a
namespace Open
open Tag (M m0 Fit)

/-- Read from m, at place i on, the bytes L: each goes on, and it comes to m'. -/
def Runs (long : Bool) : Nat → M → List Int → M → Prop
  | _, m, [], m' => m = m'
  | i, m, c :: cs, m' => (Tag.step m c ((i : Int) + 1) long).2 = 0 ∧ Runs long (i + 1) (Tag.step m c ((i : Int) + 1) long).1 cs m'

theorem Runs.append {long : Bool} (L L' : List Int) : ∀ {i : Nat} {m m1 m2 : M}, Runs long i m L m1 → Runs long (i + L.length) m1 L' m2 → Runs long i m (L ++ L') m2 := by
  induction L with
  | nil => intro i m m1 m2 h h'; simp only [Runs] at h; subst h; exact h'
  | cons c cs ih =>
    intro i m m1 m2 h h'
    refine ⟨h.1, ih h.2 ?_⟩
    rw [List.length_cons] at h'
    have e : i + 1 + cs.length = i + (cs.length + 1) := by omega
    rw [e]; exact h'
theorem Runs.one {long : Bool} {i : Nat} {m m' : M} {c : Int} (h : Tag.step m c ((i : Int) + 1) long = (m', 0)) : Runs long i m [c] m' := by
  refine ⟨by rw [h], ?_⟩
  simp only [Runs, h]

/-- The bytes of a tag's name; of an attribute's name; of a value. -/
def nameB (c : Int) : Prop := c ≠ 9 ∧ c ≠ 10 ∧ c ≠ 13 ∧ c ≠ 12 ∧ c ≠ 32 ∧ c ≠ 47 ∧ c ≠ 62 ∧ c ≠ 0
def keyB (c : Int) : Prop := Leaf.sp c = false ∧ c ≠ 47 ∧ c ≠ 62 ∧ c ≠ 61

theorem runs_name (long : Bool) (L : List Int) (hL : ∀ c ∈ L, nameB c) : ∀ (i : Nat) (m : M), m.tag = 0 → ∃ m', Runs long i m L m' ∧ m'.tag = 0 := by
  induction L with
  | nil => intro i m h; exact ⟨m, rfl, h⟩
  | cons c cs ih =>
    intro i m h
    obtain ⟨a1, a2, a3, a4, a5, a6, a7, a8⟩ := hL c (by simp)
    have hs : Tag.step m c ((i : Int) + 1) long = ({ m with named := m.named + 1, last := c }, 0) := by simp [Tag.step, h, a1, a2, a3, a4, a5, a6, a7, a8]
    obtain ⟨m', h1, h2⟩ := ih (fun x hx => hL x (by simp [hx])) (i + 1) { m with named := m.named + 1, last := c } h
    refine ⟨m', ⟨by rw [hs], ?_⟩, h2⟩
    rw [hs]; exact h1

theorem key_step (long : Bool) (i : Nat) (m : M) (c : Int) (ht : m.tag = 1 ∨ m.tag = 3) (hc : keyB c) : Tag.step m c ((i : Int) + 1) long = ({ m with tag := 3, nameQuote := Tag.q c }, 0) := by
  obtain ⟨a1, a2, a3, a4⟩ := hc
  rcases ht with ht | ht <;> simp [Tag.step, ht, a1, a2, a3, a4]

theorem runs_key (long : Bool) (L : List Int) (hL : ∀ c ∈ L, keyB c) : ∀ (c : Int), keyB c → ∀ (i : Nat) (m : M), (m.tag = 1 ∨ m.tag = 3) → ∃ m', Runs long i m (c :: L) m' ∧ m'.tag = 3 ∧ m'.nameQuote = Tag.q ((c :: L).getLast (by simp)) := by
  induction L with
  | nil =>
    intro c hc i m ht
    exact ⟨_, Runs.one (key_step long i m c ht hc), rfl, rfl⟩
  | cons d ds ih =>
    intro c hc i m ht
    have hs := key_step long i m c ht hc
    obtain ⟨m', h1, h2, h3⟩ := ih (fun x hx => hL x (by simp [hx])) d (hL d (by simp)) (i + 1) { m with tag := 3, nameQuote := Tag.q c } (Or.inr rfl)
    refine ⟨m', ⟨by rw [hs], ?_⟩, h2, by rw [h3]; rfl⟩
    rw [hs]; exact h1

theorem runs_eq (long : Bool) (n : Nat) : ∀ (i : Nat) (m : M), m.tag = 5 → ∃ m', Runs long i m (List.replicate n 61) m' ∧ m' = { m with equals := m.equals + n } := by
  induction n with
  | zero => intro i m h; exact ⟨m, rfl, by simp⟩
  | succ n ih =>
    intro i m h
    have hs : Tag.step m 61 ((i : Int) + 1) long = ({ m with equals := m.equals + 1 }, 0) := by simp [Tag.step, h]
    obtain ⟨m', h1, h2⟩ := ih (i + 1) { m with equals := m.equals + 1 } h
    refine ⟨m', ⟨by rw [hs], ?_⟩, ?_⟩
    · rw [hs]; exact h1
    · rw [h2]
      congr 1
      simp only
      omega

theorem runs_val (long : Bool) (L : List Int) : ∀ (i : Nat) (m : M), m.tag = 7 → (∀ c ∈ L, c ≠ m.quote) → Runs long i m L m := by
  induction L with
  | nil => intro i m _ _; rfl
  | cons c cs ih =>
    intro i m ht hq
    have hs : Tag.step m c ((i : Int) + 1) long = (m, 0) := by simp [Tag.step, ht, hq c (by simp)]
    refine ⟨by rw [hs], ?_⟩
    rw [hs]
    exact ih (i + 1) m ht (fun x hx => hq x (by simp [hx]))

/-- A space, or none. -/
def sp1 (b : Bool) : List Int := if b = true then [32] else []
/-- All ahead of the quote; and the whole. -/
def front (name key : List Int) (sb : Bool) (eq : Nat) (sa : Bool) : List Int := name ++ [32] ++ key ++ sp1 sb ++ List.replicate eq 61 ++ sp1 sa
def text (name key : List Int) (sb : Bool) (eq : Nat) (sa : Bool) (q : Int) (val : List Int) : List Int := front name key sb eq sa ++ [q] ++ val

structure At (sb : Bool) (eq : Nat) (sa : Bool) (long : Bool) (q : Int) (qi : Nat) (last : Int) (m : M) : Prop where
  tag : m.tag = 7
  reread : m.reread = !long
  quotedAt : m.quotedAt = (qi : Int) + 1
  quotedAfter : m.quotedAfter = sa
  equals : m.equals = eq
  spaced : m.spaced = sb
  nameQuote : m.nameQuote = Tag.q last
  quote : m.quote = q

theorem sp32 : Leaf.sp 32 = true := by decide

theorem open_run (long : Bool) (name key : List Int) (sb : Bool) (eq : Nat) (sa : Bool) (q : Int) (val : List Int) (hn : ∀ c ∈ name, nameB c) (hk : ∀ c ∈ key, keyB c) (hne : key ≠ []) (heq : 1 ≤ eq) (hq : q = 39 ∨ q = 34) (hv : ∀ c ∈ val, c ≠ q) :
    ∃ m', Runs long 0 m0 (text name key sb eq sa q val) m' ∧ At sb eq sa long q (front name key sb eq sa).length (key.getLast hne) m' := by
  cases key with
  | nil => exact absurd rfl hne
  | cons c cs =>
    obtain ⟨m1, r1, t1⟩ := runs_name long name hn 0 m0 rfl
    have s2 : Tag.step m1 32 (((0 + name.length : Nat) : Int) + 1) long = ({ m1 with tag := 1 }, 0) := by simp [Tag.step, t1]
    have r2 := Runs.append _ _ r1 (Runs.one s2)
    obtain ⟨m3, r3, t3, n3⟩ := runs_key long cs (fun x hx => hk x (by simp [hx])) c (hk c (by simp)) (0 + (name ++ [32]).length) { m1 with tag := 1 } (Or.inl rfl)
    have r4 := Runs.append _ _ r2 r3
    -- the white space ahead of the signs
    obtain ⟨m5, r5, t5, n5⟩ : ∃ m5, Runs long 0 m0 (name ++ [32] ++ c :: cs ++ sp1 sb) m5 ∧ m5.tag = (if sb = true then 4 else 3) ∧ m5.nameQuote = m3.nameQuote := by
      cases sb with
      | false => exact ⟨m3, by simpa [sp1] using r4, by simpa using t3, rfl⟩
      | true =>
        have s5 : Tag.step m3 32 (((0 + (name ++ [32] ++ c :: cs).length : Nat) : Int) + 1) long = ({ m3 with tag := 4 }, 0) := by simp [Tag.step, t3, sp32]
        exact ⟨_, Runs.append _ _ r4 (Runs.one s5), by simp, rfl⟩
    obtain ⟨e, rfl⟩ : ∃ e, eq = e + 1 := ⟨eq - 1, by omega⟩
    have s6 : Tag.step m5 61 (((0 + (name ++ [32] ++ c :: cs ++ sp1 sb).length : Nat) : Int) + 1) long = ({ m5 with tag := 5, equals := 1, spaced := sb }, 0) := by
      cases sb <;> simp at t5 <;> simp [Tag.step, t5]
    have r6 := Runs.append _ _ r5 (Runs.one s6)
    obtain ⟨m7, r7, h7⟩ := runs_eq long e (0 + (name ++ [32] ++ c :: cs ++ sp1 sb ++ [61]).length) { m5 with tag := 5, equals := 1, spaced := sb } rfl
    have r8 := Runs.append _ _ r6 r7
    have e8 : name ++ [32] ++ c :: cs ++ sp1 sb ++ [61] ++ List.replicate e 61 = name ++ [32] ++ c :: cs ++ sp1 sb ++ List.replicate (e + 1) 61 := by
      rw [List.append_assoc _ [61], List.replicate_succ]; rfl
    rw [e8] at r8
    subst h7
    obtain ⟨m9, r9, t9, f9⟩ : ∃ m9, Runs long 0 m0 (front name (c :: cs) sb (e + 1) sa) m9 ∧ m9.tag = (if sa = true then 6 else 5) ∧ (m9.equals = 1 + e ∧ m9.spaced = sb ∧ m9.nameQuote = m5.nameQuote) := by
      cases sa with
      | false => exact ⟨{ m5 with tag := 5, equals := 1 + e, spaced := sb }, by simpa [front, sp1] using r8, by simp, rfl, rfl, rfl⟩
      | true =>
        refine ⟨_, Runs.append _ _ r8 (Runs.one (m' := { m5 with tag := 6, equals := 1 + e, spaced := sb }) ?_), by simp, rfl, rfl, rfl⟩
        simp [Tag.step, sp32]
    have s10 : Tag.step m9 q (((0 + (front name (c :: cs) sb (e + 1) sa).length : Nat) : Int) + 1) long = ({ m9 with quotedAt := ((front name (c :: cs) sb (e + 1) sa).length : Int) + 1, quotedAfter := sa, reread := !long, tag := 7, quote := q }, 0) := by
      have hq61 : q ≠ 61 := by omega
      cases sa <;> simp at t9 <;> simp [Tag.step, t9, hq, hq61]
    have r10 := Runs.append _ _ r9 (Runs.one s10)
    have r11 := Runs.append _ _ r10 (runs_val long val (0 + (front name (c :: cs) sb (e + 1) sa ++ [q]).length) { m9 with quotedAt := ((front name (c :: cs) sb (e + 1) sa).length : Int) + 1, quotedAfter := sa, reread := !long, tag := 7, quote := q } rfl hv)
    refine ⟨_, r11, ⟨rfl, rfl, rfl, rfl, ?_, f9.2.1, ?_, rfl⟩⟩
    · simp only [f9.1]; omega
    · simp only [f9.2.2, n5, n3]

/-! ### What the reader's numbers stay in -/
structure Good (k : Nat) (m : M) : Prop where
  t0 : 0 ≤ m.tag
  t8 : m.tag ≤ 8
  l0 : 0 ≤ m.last
  l1 : m.last ≤ 255
  n0 : 0 ≤ m.named
  n1 : m.named ≤ k
  q0 : 0 ≤ m.equals
  q1 : m.equals ≤ k

theorem Good.fit {k : Nat} {m : M} (h : Good k m) (hk : k ≤ 1000000) : Fit m :=
  ⟨h.t0, h.t8, h.l0, h.l1, h.n0, by have := h.n1; omega, h.q0, by have := h.q1; omega⟩
theorem good_zero : Good 0 m0 := by constructor <;> simp [m0]
theorem ite_good {k : Nat} {c : Prop} [Decidable c] {x y : M × Int} (hx : c → Good k x.1) (hy : ¬ c → Good k y.1) : Good k (if c then x else y).1 := by
  by_cases h : c
  · simp only [if_pos h]; exact hx h
  · simp only [if_neg h]; exact hy h
theorem step_good {k : Nat} {m : M} (h : Good k m) (c held : Int) (long : Bool) (h0 : 0 ≤ c) (h1 : c ≤ 255) : Good (k + 1) (Tag.step m c held long).1 := by
  obtain ⟨t0, t8, l0, l1, n0, n1, q0, q1⟩ := h
  unfold Tag.step
  repeat' (first | (refine ite_good ?_ ?_) | intro _)
  all_goals (constructor <;> simp only <;> omega)

end Open
end Go.Proofs.Qxb6000730a

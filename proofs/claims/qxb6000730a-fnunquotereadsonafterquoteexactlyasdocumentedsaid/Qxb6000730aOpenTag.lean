/-
  zzOpenTag, unquote: by their contracts.
-/
import Derived.Test.Qxb6000730aOpenOK
import Derived.Test.Qxb6000730aBytes
import Derived.Lib.AppendStr
namespace Go.Proofs.Qxb6000730a
open Go.ChangeShapes Go.WideShapes Go.ChangeAt Go.RowKit
namespace Open
open Num (lst)
open Bytes
open Tag (M)
set_option linter.unusedVariables false

/-- Append a string's bytes. -/
theorem pushStr {ops : Array Oper} {rest : List Oper} {o : Oper} {a : Act} {Q : Exit → Act → World → Prop} (w0 : World) (hgd : o.guard = none) (s x : Operand)
    (ho : o.op = .call { callee := .builtin .append, args := #[s, x], argTypes := #[35, 9] }) (B : Nat) (v : Value) (ds : List Int) (t : ByteArray) (hs : a.eval s = v)
    (hx : a.eval x = .string t) (hown : Own B v ds w0) (hlen : ds.length ≤ 1000000000) (hlen2 : t.size ≤ 1000000000) (hB : B ≤ w0.heap.size)
    (h : ∀ v' w', Own B v' (ds ++ lst t) w' → w0.grownBy w' v.ownBlock → wpList Try.prog ops Q rest (a.put o.dst v') w') :
    wpList Try.prog ops Q (o :: rest) a w0 := by
  obtain ⟨i0, hi, hz0, hz1, hz2⟩ := info_parts info5
  refine Lib.wpList_append_own_string (P := Try.prog) w0 hgd s x 35 9 ho B 5 i0 Try.underlying35 Try.underlying9 hi hz0 hz1 hz2 v ds.length (ds.map (Value.int .u8)) hs hown t hx (by unfold maxLen; omega) (by omega) hB ?_
  intro v' w' h1 h2 _
  refine h v' w' ?_ h2
  unfold Own
  rw [List.length_append, List.map_append, Num.lst_length]
  have e : (lst t).map (Value.int .u8) = Lib.strCells t := by
    unfold lst Lib.strCells
    rw [List.map_map]
    rfl
  rw [e]
  exact h1

theorem bel_grown {B : Nat} {w wr w1 : World} {v : Value} {ds : List Int} (hbel : Below B w wr) (hB : B ≤ wr.heap.size) (hown : Own B v ds wr) (hg : wr.grownBy w1 v.ownBlock) : Below B w w1 :=
  hbel.grown hg hB (fun k hk => (hown.lt k hk).1)
theorem bel_push {B : Nat} {w wr w1 : World} {o : Obj} {v : Value} {ds : List Int} (hbel : Below B w wr) (hB : B ≤ wr.heap.size) (hown : Own B v ds wr) (hg : (wr.alloc o).grownBy w1 v.ownBlock) : Below B w w1 :=
  (hbel.alloc hB o).grown hg (by simp; omega) (fun k hk => (hown.lt k hk).1)

theorem rep_push (L : List Int) (k : Nat) : L ++ List.replicate k 61 ++ [61] = L ++ List.replicate (k + 1) 61 := by
  rw [List.append_assoc, ← List.replicate_succ']

theorem pack1 {B : Nat} {v : Value} {L : List Int} {w : World} (h : Own B v L w) (hne : L ≠ []) : ∃ (L' : List Int) (g c : Nat), Hid (L' = L) ∧ v = .slice (some ⟨g, 0, none⟩) L'.length c ∧ Own B v L' w := by
  obtain ⟨g, c, hv, _, _, _⟩ := h.spot hne
  exact ⟨L, g, c, rfl, hv, h⟩
theorem text_of {name key val : List Int} {sb sa : Bool} {eq : Nat} {q : Int} {L0 : List Int} (h : Hid (L0 = name ++ [32] ++ key ++ sp1 sb)) : L0 ++ List.replicate eq 61 ++ sp1 sa ++ [q] ++ val = text name key sb eq sa q val := by
  rw [h.out]; rfl
theorem front_of {name key : List Int} {sb sa : Bool} {eq : Nat} {L0 : List Int} (h : Hid (L0 = name ++ [32] ++ key ++ sp1 sb)) : L0 ++ List.replicate eq 61 ++ sp1 sa = front name key sb eq sa := by
  rw [h.out]; rfl

set_option maxRecDepth 100000 in
set_option maxHeartbeats 3200000 in
theorem openTag_false_false (name key val : ByteArray) (eq : Nat) (q : Int) (w : World) (h1 : name.size ≤ 65536) (h2 : key.size ≤ 65536) (h3 : val.size ≤ 65536) (he : eq ≤ 255) :
    Calls Try.prog 28 #[.string name, .string key, .bool false, .int .i64 eq, .bool false, .int .u8 q, .string val] w fun e w' =>
      ∃ v, e = .returned (.tuple #[v, .int .i64 (front (lst name) (lst key) false eq false).length]) ∧ Own w.heap.size v (text (lst name) (lst key) false eq false q (lst val)) w' ∧ Below w.heap.size w w' := by
  have l1 := Num.lst_length name
  have l2 := Num.lst_length key
  obtain ⟨i0, hi, hz0, hz1, hz2⟩ := info_parts info5
  have tok2 : True := trivial
  have tok3 : True := trivial
  have tok4 : True := trivial
  have tok5 : True := trivial
  go_enter Try.func28, Try.ntmps28
  go_wp2_with (first
    | (at_make; refine wpList_make_own w rfl _ (.tmp 29) 35 rfl w.heap.size 5 i0 (.int .u8 0) 1 Try.underlying35 hi hz0 hz1 _ _ _ (name.size + key.size + val.size + eq + 6) rfl rfl (by omega) (by rw [hz2]; omega) (by unfold maxLen; omega) (Nat.le_refl _) ?_; intro w1 ho1 hg1; have hO1 : Own w.heap.size (.slice (some ⟨w.heap.size, 0, none⟩) 0 (name.size + key.size + val.size + eq + 6)) [] w1 := ho1; have hb1 := (Below.refl w.heap.size w).grown hg1 (Nat.le_refl _) (fun k hk => by cases hk); have hB1 := hb1.size; clear ho1)
    | (at_builtin; have _t := tok2; refine pushStr w1 rfl (.tmp 31) (.tmp 32) rfl w.heap.size _ [] name rfl rfl hO1 (by simp) (by omega) hB1 ?_; intro v2 w2 hO2 hg2; clear tok2; have hb2 := bel_grown hb1 hB1 hO1 hg2; have hB2 := hb2.size)
    | (at_builtin; have _t := tok3; refine push w2 rfl (.tmp 34) (.tmp 35) rfl w.heap.size _ ([] ++ lst name) 32 rfl rfl hO2 (by rw [List.nil_append]; omega) hB2 ?_; intro v3 w3 hO3 hg3 ha3; clear tok3 ha3; have hb3 := bel_push hb2 hB2 hO2 hg3; have hB3 := hb3.size; have hl3 : ([] ++ lst name ++ [32]).length ≤ 100000 := by simp; omega)
    | (at_builtin; have _t := tok4; refine pushStr w3 rfl (.tmp 37) (.tmp 38) rfl w.heap.size _ ([] ++ lst name ++ [32]) key rfl rfl hO3 (by omega) (by omega) hB3 ?_; intro v4 w4 hO4 hg4; clear tok4; have hb4 := bel_grown hb3 hB3 hO3 hg4; have hB4 := hb4.size; have hl4 : ([] ++ lst name ++ [32] ++ lst key).length ≤ 200000 := by simp; omega))
  obtain ⟨L0, hL0⟩ : ∃ L0, L0 = lst name ++ [32] ++ lst key ++ sp1 false := ⟨_, rfl⟩
  have hOL : Own w.heap.size v4 L0 w4 := by rw [hL0]; simpa [sp1] using hO4
  have hlL : L0.length ≤ 200000 := by rw [hL0]; simp [sp1]; omega
  have hnL : L0 ≠ [] := by rw [hL0]; simp
  have HL : Hid (L0 = lst name ++ [32] ++ lst key ++ sp1 false) := hL0
  clear hL0 hO1 hO2 hO3 hO4 hl3 hl4 hb1 hb2 hb3 hB1 hB2 hB3 hi hz0 hz1 hz2
  go_loopw [16, 17] (fun sv iv wr => ∃ k : Nat, iv = .int .i64 k ∧ k ≤ eq ∧ Own w.heap.size sv (L0 ++ List.replicate k 61) wr ∧ Below w.heap.size w wr) (fun _ iv _ => eq - (intOf iv).toNat)
  case atStart => exact ⟨0, rfl, Nat.zero_le _, by simpa using hOL, hb4⟩
  case round =>
    clear hOL
    obtain ⟨k, rfl, hk, hO, hbel⟩ := hrel
    have hB := hbel.size
    have hlk : (L0 ++ List.replicate k 61).length ≤ 300000 := by simp; omega
    by_cases hlt : k < eq
    · go_wp2_with (at_builtin; refine push wr rfl (.tmp 49) (.tmp 50) rfl w.heap.size _ (L0 ++ List.replicate k 61) 61 rfl rfl hO (by omega) hB ?_; intro v6 w6 hO6 hg6 ha6)
      rw [rep_push] at hO6
      go_roundw
      case rel => exact ⟨k + 1, by go_num, by omega, hO6, bel_push hbel hB hO hg6⟩
      case measure => simp [intOf]; omega
    · have hkeq : k = eq := by omega
      subst hkeq
      obtain ⟨gg, cc, hv, _, _, _⟩ := hO.spot (by simp [hnL])
      subst hv
      obtain ⟨L1, hL1⟩ : ∃ L1, L1 = L0 ++ List.replicate k 61 := ⟨_, rfl⟩
      rw [← hL1] at hO hlk ⊢
      have HL1 : Hid (L1 = L0 ++ List.replicate k 61) := hL1
      have hne1 : L1 ≠ [] := by rw [hL1]; simp [hnL]
      clear hL1
      have tok6 : True := trivial
      have tok7 : True := trivial
      have tok8 : True := trivial
      go_wp2_with (first
        | (at_builtin; have _t := tok7; refine push wr rfl (.tmp 58) (.tmp 60) rfl w.heap.size _ L1 q rfl rfl hO (by omega) hB ?_; intro v8 w8 hO8 hg8 ha8; clear tok7 ha8; have hb8 := bel_push hbel hB hO hg8; have hB8 := hb8.size; have hl8 : (L1 ++ [q]).length ≤ 500000 := by simp; omega)
        | (at_builtin; have _t := tok8; refine pushStr w8 rfl (.tmp 62) (.tmp 63) rfl w.heap.size _ (L1 ++ [q]) val rfl rfl hO8 (by omega) (by omega) hB8 ?_; intro v9 w9 hO9 hg9; clear tok8; have hb9 := bel_grown hb8 hB8 hO8 hg9))
      go_ret2
      have e1 : L1 = front (lst name) (lst key) false k false := by rw [HL1.out, ← front_of HL]; simp [sp1]
      have e2 : L1 ++ [q] ++ lst val = text (lst name) (lst key) false k false q (lst val) := by rw [HL1.out, ← text_of HL]; simp [sp1]
      rw [e2] at hO9
      exact ⟨_, by rw [← e1]; rfl, hO9, hb9⟩

set_option maxRecDepth 100000 in
set_option maxHeartbeats 3200000 in
theorem openTag_false_true (name key val : ByteArray) (eq : Nat) (q : Int) (w : World) (h1 : name.size ≤ 65536) (h2 : key.size ≤ 65536) (h3 : val.size ≤ 65536) (he : eq ≤ 255) :
    Calls Try.prog 28 #[.string name, .string key, .bool false, .int .i64 eq, .bool true, .int .u8 q, .string val] w fun e w' =>
      ∃ v, e = .returned (.tuple #[v, .int .i64 (front (lst name) (lst key) false eq true).length]) ∧ Own w.heap.size v (text (lst name) (lst key) false eq true q (lst val)) w' ∧ Below w.heap.size w w' := by
  have l1 := Num.lst_length name
  have l2 := Num.lst_length key
  obtain ⟨i0, hi, hz0, hz1, hz2⟩ := info_parts info5
  have tok2 : True := trivial
  have tok3 : True := trivial
  have tok4 : True := trivial
  have tok5 : True := trivial
  go_enter Try.func28, Try.ntmps28
  go_wp2_with (first
    | (at_make; refine wpList_make_own w rfl _ (.tmp 29) 35 rfl w.heap.size 5 i0 (.int .u8 0) 1 Try.underlying35 hi hz0 hz1 _ _ _ (name.size + key.size + val.size + eq + 6) rfl rfl (by omega) (by rw [hz2]; omega) (by unfold maxLen; omega) (Nat.le_refl _) ?_; intro w1 ho1 hg1; have hO1 : Own w.heap.size (.slice (some ⟨w.heap.size, 0, none⟩) 0 (name.size + key.size + val.size + eq + 6)) [] w1 := ho1; have hb1 := (Below.refl w.heap.size w).grown hg1 (Nat.le_refl _) (fun k hk => by cases hk); have hB1 := hb1.size; clear ho1)
    | (at_builtin; have _t := tok2; refine pushStr w1 rfl (.tmp 31) (.tmp 32) rfl w.heap.size _ [] name rfl rfl hO1 (by simp) (by omega) hB1 ?_; intro v2 w2 hO2 hg2; clear tok2; have hb2 := bel_grown hb1 hB1 hO1 hg2; have hB2 := hb2.size)
    | (at_builtin; have _t := tok3; refine push w2 rfl (.tmp 34) (.tmp 35) rfl w.heap.size _ ([] ++ lst name) 32 rfl rfl hO2 (by rw [List.nil_append]; omega) hB2 ?_; intro v3 w3 hO3 hg3 ha3; clear tok3 ha3; have hb3 := bel_push hb2 hB2 hO2 hg3; have hB3 := hb3.size; have hl3 : ([] ++ lst name ++ [32]).length ≤ 100000 := by simp; omega)
    | (at_builtin; have _t := tok4; refine pushStr w3 rfl (.tmp 37) (.tmp 38) rfl w.heap.size _ ([] ++ lst name ++ [32]) key rfl rfl hO3 (by omega) (by omega) hB3 ?_; intro v4 w4 hO4 hg4; clear tok4; have hb4 := bel_grown hb3 hB3 hO3 hg4; have hB4 := hb4.size; have hl4 : ([] ++ lst name ++ [32] ++ lst key).length ≤ 200000 := by simp; omega))
  obtain ⟨L0, hL0⟩ : ∃ L0, L0 = lst name ++ [32] ++ lst key ++ sp1 false := ⟨_, rfl⟩
  have hOL : Own w.heap.size v4 L0 w4 := by rw [hL0]; simpa [sp1] using hO4
  have hlL : L0.length ≤ 200000 := by rw [hL0]; simp [sp1]; omega
  have hnL : L0 ≠ [] := by rw [hL0]; simp
  have HL : Hid (L0 = lst name ++ [32] ++ lst key ++ sp1 false) := hL0
  clear hL0 hO1 hO2 hO3 hO4 hl3 hl4 hb1 hb2 hb3 hB1 hB2 hB3 hi hz0 hz1 hz2
  go_loopw [16, 17] (fun sv iv wr => ∃ k : Nat, iv = .int .i64 k ∧ k ≤ eq ∧ Own w.heap.size sv (L0 ++ List.replicate k 61) wr ∧ Below w.heap.size w wr) (fun _ iv _ => eq - (intOf iv).toNat)
  case atStart => exact ⟨0, rfl, Nat.zero_le _, by simpa using hOL, hb4⟩
  case round =>
    clear hOL
    obtain ⟨k, rfl, hk, hO, hbel⟩ := hrel
    have hB := hbel.size
    have hlk : (L0 ++ List.replicate k 61).length ≤ 300000 := by simp; omega
    by_cases hlt : k < eq
    · go_wp2_with (at_builtin; refine push wr rfl (.tmp 49) (.tmp 50) rfl w.heap.size _ (L0 ++ List.replicate k 61) 61 rfl rfl hO (by omega) hB ?_; intro v6 w6 hO6 hg6 ha6)
      rw [rep_push] at hO6
      go_roundw
      case rel => exact ⟨k + 1, by go_num, by omega, hO6, bel_push hbel hB hO hg6⟩
      case measure => simp [intOf]; omega
    · have hkeq : k = eq := by omega
      subst hkeq
      obtain ⟨gg, cc, hv, _, _, _⟩ := hO.spot (by simp [hnL])
      subst hv
      obtain ⟨L1, hL1⟩ : ∃ L1, L1 = L0 ++ List.replicate k 61 := ⟨_, rfl⟩
      rw [← hL1] at hO hlk ⊢
      have HL1 : Hid (L1 = L0 ++ List.replicate k 61) := hL1
      have hne1 : L1 ≠ [] := by rw [hL1]; simp [hnL]
      clear hL1
      have tok6 : True := trivial
      have tok7 : True := trivial
      have tok8 : True := trivial
      go_wp2_with (first
        | (at_builtin; have _t := tok6; refine push wr rfl (.tmp 53) (.tmp 54) rfl w.heap.size _ L1 32 rfl rfl hO (by omega) hB ?_; intro v7 w7 hO7 hg7 ha7; clear tok6 ha7; have hb7 := bel_push hbel hB hO hg7; have hB7 := hb7.size; obtain ⟨L2, g7, c7, HL2, hv7, hP7⟩ := pack1 hO7 (by simp); have hl7 : L2.length ≤ 400000 := (by rw [HL2.out]; simp; omega); clear hO7; subst hv7)
        | (at_builtin; have _t := tok7; refine push w7 rfl (.tmp 58) (.tmp 60) rfl w.heap.size _ L2 q rfl rfl hP7 (by omega) hB7 ?_; intro v8 w8 hO8 hg8 ha8; clear tok7 ha8; have hb8 := bel_push hb7 hB7 hP7 hg8; have hB8 := hb8.size; have hl8 : (L2 ++ [q]).length ≤ 500000 := by simp; omega)
        | (at_builtin; have _t := tok8; refine pushStr w8 rfl (.tmp 62) (.tmp 63) rfl w.heap.size _ (L2 ++ [q]) val rfl rfl hO8 (by omega) (by omega) hB8 ?_; intro v9 w9 hO9 hg9; clear tok8; have hb9 := bel_grown hb8 hB8 hO8 hg9))
      go_ret2
      have e1 : L2 = front (lst name) (lst key) false k true := by rw [HL2.out, HL1.out]; exact front_of (sa := true) HL
      have e2 : L2 ++ [q] ++ lst val = text (lst name) (lst key) false k true q (lst val) := by rw [HL2.out, HL1.out]; exact text_of (sa := true) HL
      rw [e2] at hO9
      exact ⟨_, by rw [← e1]; rfl, hO9, hb9⟩

set_option maxRecDepth 100000 in
set_option maxHeartbeats 3200000 in
theorem openTag_true_false (name key val : ByteArray) (eq : Nat) (q : Int) (w : World) (h1 : name.size ≤ 65536) (h2 : key.size ≤ 65536) (h3 : val.size ≤ 65536) (he : eq ≤ 255) :
    Calls Try.prog 28 #[.string name, .string key, .bool true, .int .i64 eq, .bool false, .int .u8 q, .string val] w fun e w' =>
      ∃ v, e = .returned (.tuple #[v, .int .i64 (front (lst name) (lst key) true eq false).length]) ∧ Own w.heap.size v (text (lst name) (lst key) true eq false q (lst val)) w' ∧ Below w.heap.size w w' := by
  have l1 := Num.lst_length name
  have l2 := Num.lst_length key
  obtain ⟨i0, hi, hz0, hz1, hz2⟩ := info_parts info5
  have tok2 : True := trivial
  have tok3 : True := trivial
  have tok4 : True := trivial
  have tok5 : True := trivial
  go_enter Try.func28, Try.ntmps28
  go_wp2_with (first
    | (at_make; refine wpList_make_own w rfl _ (.tmp 29) 35 rfl w.heap.size 5 i0 (.int .u8 0) 1 Try.underlying35 hi hz0 hz1 _ _ _ (name.size + key.size + val.size + eq + 6) rfl rfl (by omega) (by rw [hz2]; omega) (by unfold maxLen; omega) (Nat.le_refl _) ?_; intro w1 ho1 hg1; have hO1 : Own w.heap.size (.slice (some ⟨w.heap.size, 0, none⟩) 0 (name.size + key.size + val.size + eq + 6)) [] w1 := ho1; have hb1 := (Below.refl w.heap.size w).grown hg1 (Nat.le_refl _) (fun k hk => by cases hk); have hB1 := hb1.size; clear ho1)
    | (at_builtin; have _t := tok2; refine pushStr w1 rfl (.tmp 31) (.tmp 32) rfl w.heap.size _ [] name rfl rfl hO1 (by simp) (by omega) hB1 ?_; intro v2 w2 hO2 hg2; clear tok2; have hb2 := bel_grown hb1 hB1 hO1 hg2; have hB2 := hb2.size)
    | (at_builtin; have _t := tok3; refine push w2 rfl (.tmp 34) (.tmp 35) rfl w.heap.size _ ([] ++ lst name) 32 rfl rfl hO2 (by rw [List.nil_append]; omega) hB2 ?_; intro v3 w3 hO3 hg3 ha3; clear tok3 ha3; have hb3 := bel_push hb2 hB2 hO2 hg3; have hB3 := hb3.size; have hl3 : ([] ++ lst name ++ [32]).length ≤ 100000 := by simp; omega)
    | (at_builtin; have _t := tok4; refine pushStr w3 rfl (.tmp 37) (.tmp 38) rfl w.heap.size _ ([] ++ lst name ++ [32]) key rfl rfl hO3 (by omega) (by omega) hB3 ?_; intro v4 w4 hO4 hg4; clear tok4; have hb4 := bel_grown hb3 hB3 hO3 hg4; have hB4 := hb4.size; have hl4 : ([] ++ lst name ++ [32] ++ lst key).length ≤ 200000 := by simp; omega)
    | (at_builtin; have _t := tok5; refine push w4 rfl (.tmp 41) (.tmp 42) rfl w.heap.size _ ([] ++ lst name ++ [32] ++ lst key) 32 rfl rfl hO4 (by omega) hB4 ?_; intro v5 w5 hO5 hg5 ha5; clear tok5 ha5; have hb5 := bel_push hb4 hB4 hO4 hg5; have hB5 := hb5.size))
  obtain ⟨L0, hL0⟩ : ∃ L0, L0 = lst name ++ [32] ++ lst key ++ sp1 true := ⟨_, rfl⟩
  have hOL : Own w.heap.size v5 L0 w5 := by rw [hL0]; simpa [sp1] using hO5
  have hlL : L0.length ≤ 200000 := by rw [hL0]; simp [sp1]; omega
  have hnL : L0 ≠ [] := by rw [hL0]; simp
  have HL : Hid (L0 = lst name ++ [32] ++ lst key ++ sp1 true) := hL0
  clear hL0 hO1 hO2 hO3 hO4 hl3 hl4 hb1 hb2 hb3 hB1 hB2 hB3 hi hz0 hz1 hz2
  go_loopw [16, 17] (fun sv iv wr => ∃ k : Nat, iv = .int .i64 k ∧ k ≤ eq ∧ Own w.heap.size sv (L0 ++ List.replicate k 61) wr ∧ Below w.heap.size w wr) (fun _ iv _ => eq - (intOf iv).toNat)
  case atStart => exact ⟨0, rfl, Nat.zero_le _, by simpa using hOL, hb5⟩
  case round =>
    clear hOL
    obtain ⟨k, rfl, hk, hO, hbel⟩ := hrel
    have hB := hbel.size
    have hlk : (L0 ++ List.replicate k 61).length ≤ 300000 := by simp; omega
    by_cases hlt : k < eq
    · go_wp2_with (at_builtin; refine push wr rfl (.tmp 49) (.tmp 50) rfl w.heap.size _ (L0 ++ List.replicate k 61) 61 rfl rfl hO (by omega) hB ?_; intro v6 w6 hO6 hg6 ha6)
      rw [rep_push] at hO6
      go_roundw
      case rel => exact ⟨k + 1, by go_num, by omega, hO6, bel_push hbel hB hO hg6⟩
      case measure => simp [intOf]; omega
    · have hkeq : k = eq := by omega
      subst hkeq
      obtain ⟨gg, cc, hv, _, _, _⟩ := hO.spot (by simp [hnL])
      subst hv
      obtain ⟨L1, hL1⟩ : ∃ L1, L1 = L0 ++ List.replicate k 61 := ⟨_, rfl⟩
      rw [← hL1] at hO hlk ⊢
      have HL1 : Hid (L1 = L0 ++ List.replicate k 61) := hL1
      have hne1 : L1 ≠ [] := by rw [hL1]; simp [hnL]
      clear hL1
      have tok6 : True := trivial
      have tok7 : True := trivial
      have tok8 : True := trivial
      go_wp2_with (first
        | (at_builtin; have _t := tok7; refine push wr rfl (.tmp 58) (.tmp 60) rfl w.heap.size _ L1 q rfl rfl hO (by omega) hB ?_; intro v8 w8 hO8 hg8 ha8; clear tok7 ha8; have hb8 := bel_push hbel hB hO hg8; have hB8 := hb8.size; have hl8 : (L1 ++ [q]).length ≤ 500000 := by simp; omega)
        | (at_builtin; have _t := tok8; refine pushStr w8 rfl (.tmp 62) (.tmp 63) rfl w.heap.size _ (L1 ++ [q]) val rfl rfl hO8 (by omega) (by omega) hB8 ?_; intro v9 w9 hO9 hg9; clear tok8; have hb9 := bel_grown hb8 hB8 hO8 hg9))
      go_ret2
      have e1 : L1 = front (lst name) (lst key) true k false := by rw [HL1.out, ← front_of HL]; simp [sp1]
      have e2 : L1 ++ [q] ++ lst val = text (lst name) (lst key) true k false q (lst val) := by rw [HL1.out, ← text_of HL]; simp [sp1]
      rw [e2] at hO9
      exact ⟨_, by rw [← e1]; rfl, hO9, hb9⟩

set_option maxRecDepth 100000 in
set_option maxHeartbeats 3200000 in
theorem openTag_true_true (name key val : ByteArray) (eq : Nat) (q : Int) (w : World) (h1 : name.size ≤ 65536) (h2 : key.size ≤ 65536) (h3 : val.size ≤ 65536) (he : eq ≤ 255) :
    Calls Try.prog 28 #[.string name, .string key, .bool true, .int .i64 eq, .bool true, .int .u8 q, .string val] w fun e w' =>
      ∃ v, e = .returned (.tuple #[v, .int .i64 (front (lst name) (lst key) true eq true).length]) ∧ Own w.heap.size v (text (lst name) (lst key) true eq true q (lst val)) w' ∧ Below w.heap.size w w' := by
  have l1 := Num.lst_length name
  have l2 := Num.lst_length key
  obtain ⟨i0, hi, hz0, hz1, hz2⟩ := info_parts info5
  have tok2 : True := trivial
  have tok3 : True := trivial
  have tok4 : True := trivial
  have tok5 : True := trivial
  go_enter Try.func28, Try.ntmps28
  go_wp2_with (first
    | (at_make; refine wpList_make_own w rfl _ (.tmp 29) 35 rfl w.heap.size 5 i0 (.int .u8 0) 1 Try.underlying35 hi hz0 hz1 _ _ _ (name.size + key.size + val.size + eq + 6) rfl rfl (by omega) (by rw [hz2]; omega) (by unfold maxLen; omega) (Nat.le_refl _) ?_; intro w1 ho1 hg1; have hO1 : Own w.heap.size (.slice (some ⟨w.heap.size, 0, none⟩) 0 (name.size + key.size + val.size + eq + 6)) [] w1 := ho1; have hb1 := (Below.refl w.heap.size w).grown hg1 (Nat.le_refl _) (fun k hk => by cases hk); have hB1 := hb1.size; clear ho1)
    | (at_builtin; have _t := tok2; refine pushStr w1 rfl (.tmp 31) (.tmp 32) rfl w.heap.size _ [] name rfl rfl hO1 (by simp) (by omega) hB1 ?_; intro v2 w2 hO2 hg2; clear tok2; have hb2 := bel_grown hb1 hB1 hO1 hg2; have hB2 := hb2.size)
    | (at_builtin; have _t := tok3; refine push w2 rfl (.tmp 34) (.tmp 35) rfl w.heap.size _ ([] ++ lst name) 32 rfl rfl hO2 (by rw [List.nil_append]; omega) hB2 ?_; intro v3 w3 hO3 hg3 ha3; clear tok3 ha3; have hb3 := bel_push hb2 hB2 hO2 hg3; have hB3 := hb3.size; have hl3 : ([] ++ lst name ++ [32]).length ≤ 100000 := by simp; omega)
    | (at_builtin; have _t := tok4; refine pushStr w3 rfl (.tmp 37) (.tmp 38) rfl w.heap.size _ ([] ++ lst name ++ [32]) key rfl rfl hO3 (by omega) (by omega) hB3 ?_; intro v4 w4 hO4 hg4; clear tok4; have hb4 := bel_grown hb3 hB3 hO3 hg4; have hB4 := hb4.size; have hl4 : ([] ++ lst name ++ [32] ++ lst key).length ≤ 200000 := by simp; omega)
    | (at_builtin; have _t := tok5; refine push w4 rfl (.tmp 41) (.tmp 42) rfl w.heap.size _ ([] ++ lst name ++ [32] ++ lst key) 32 rfl rfl hO4 (by omega) hB4 ?_; intro v5 w5 hO5 hg5 ha5; clear tok5 ha5; have hb5 := bel_push hb4 hB4 hO4 hg5; have hB5 := hb5.size))
  obtain ⟨L0, hL0⟩ : ∃ L0, L0 = lst name ++ [32] ++ lst key ++ sp1 true := ⟨_, rfl⟩
  have hOL : Own w.heap.size v5 L0 w5 := by rw [hL0]; simpa [sp1] using hO5
  have hlL : L0.length ≤ 200000 := by rw [hL0]; simp [sp1]; omega
  have hnL : L0 ≠ [] := by rw [hL0]; simp
  have HL : Hid (L0 = lst name ++ [32] ++ lst key ++ sp1 true) := hL0
  clear hL0 hO1 hO2 hO3 hO4 hl3 hl4 hb1 hb2 hb3 hB1 hB2 hB3 hi hz0 hz1 hz2
  go_loopw [16, 17] (fun sv iv wr => ∃ k : Nat, iv = .int .i64 k ∧ k ≤ eq ∧ Own w.heap.size sv (L0 ++ List.replicate k 61) wr ∧ Below w.heap.size w wr) (fun _ iv _ => eq - (intOf iv).toNat)
  case atStart => exact ⟨0, rfl, Nat.zero_le _, by simpa using hOL, hb5⟩
  case round =>
    clear hOL
    obtain ⟨k, rfl, hk, hO, hbel⟩ := hrel
    have hB := hbel.size
    have hlk : (L0 ++ List.replicate k 61).length ≤ 300000 := by simp; omega
    by_cases hlt : k < eq
    · go_wp2_with (at_builtin; refine push wr rfl (.tmp 49) (.tmp 50) rfl w.heap.size _ (L0 ++ List.replicate k 61) 61 rfl rfl hO (by omega) hB ?_; intro v6 w6 hO6 hg6 ha6)
      rw [rep_push] at hO6
      go_roundw
      case rel => exact ⟨k + 1, by go_num, by omega, hO6, bel_push hbel hB hO hg6⟩
      case measure => simp [intOf]; omega
    · have hkeq : k = eq := by omega
      subst hkeq
      obtain ⟨gg, cc, hv, _, _, _⟩ := hO.spot (by simp [hnL])
      subst hv
      obtain ⟨L1, hL1⟩ : ∃ L1, L1 = L0 ++ List.replicate k 61 := ⟨_, rfl⟩
      rw [← hL1] at hO hlk ⊢
      have HL1 : Hid (L1 = L0 ++ List.replicate k 61) := hL1
      have hne1 : L1 ≠ [] := by rw [hL1]; simp [hnL]
      clear hL1
      have tok6 : True := trivial
      have tok7 : True := trivial
      have tok8 : True := trivial
      go_wp2_with (first
        | (at_builtin; have _t := tok6; refine push wr rfl (.tmp 53) (.tmp 54) rfl w.heap.size _ L1 32 rfl rfl hO (by omega) hB ?_; intro v7 w7 hO7 hg7 ha7; clear tok6 ha7; have hb7 := bel_push hbel hB hO hg7; have hB7 := hb7.size; obtain ⟨L2, g7, c7, HL2, hv7, hP7⟩ := pack1 hO7 (by simp); have hl7 : L2.length ≤ 400000 := (by rw [HL2.out]; simp; omega); clear hO7; subst hv7)
        | (at_builtin; have _t := tok7; refine push w7 rfl (.tmp 58) (.tmp 60) rfl w.heap.size _ L2 q rfl rfl hP7 (by omega) hB7 ?_; intro v8 w8 hO8 hg8 ha8; clear tok7 ha8; have hb8 := bel_push hb7 hB7 hP7 hg8; have hB8 := hb8.size; have hl8 : (L2 ++ [q]).length ≤ 500000 := by simp; omega)
        | (at_builtin; have _t := tok8; refine pushStr w8 rfl (.tmp 62) (.tmp 63) rfl w.heap.size _ (L2 ++ [q]) val rfl rfl hO8 (by omega) (by omega) hB8 ?_; intro v9 w9 hO9 hg9; clear tok8; have hb9 := bel_grown hb8 hB8 hO8 hg9))
      go_ret2
      have e1 : L2 = front (lst name) (lst key) true k true := by rw [HL2.out, HL1.out]; exact front_of (sa := true) HL
      have e2 : L2 ++ [q] ++ lst val = text (lst name) (lst key) true k true q (lst val) := by rw [HL2.out, HL1.out]; exact text_of (sa := true) HL
      rw [e2] at hO9
      exact ⟨_, by rw [← e1]; rfl, hO9, hb9⟩

theorem openTag (name key val : ByteArray) (sb sa : Bool) (eq : Nat) (q : Int) (w : World) (h1 : name.size ≤ 65536) (h2 : key.size ≤ 65536) (h3 : val.size ≤ 65536) (he : eq ≤ 255) :
    Calls Try.prog 28 #[.string name, .string key, .bool sb, .int .i64 eq, .bool sa, .int .u8 q, .string val] w fun e w' =>
      ∃ v, e = .returned (.tuple #[v, .int .i64 (front (lst name) (lst key) sb eq sa).length]) ∧ Own w.heap.size v (text (lst name) (lst key) sb eq sa q (lst val)) w' ∧ Below w.heap.size w w' := by
  cases sb <;> cases sa
  · exact openTag_false_false name key val eq q w h1 h2 h3 he
  · exact openTag_false_true name key val eq q w h1 h2 h3 he
  · exact openTag_true_false name key val eq q w h1 h2 h3 he
  · exact openTag_true_true name key val eq q w h1 h2 h3 he

end Open
end Go.Proofs.Qxb6000730a

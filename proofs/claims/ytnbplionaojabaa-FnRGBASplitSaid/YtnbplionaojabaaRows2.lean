/-
  Rows of the call's own, kept apart from each other: ints, and colors; one append as a step of a walk, with the place of the row behind it. Conditions stand in each theorem.
-/
import Derived.Test.YtnbplionaojabaaView
import Derived.Test.YtnbplionaojabaaPush
import Derived.Maps.AppendAt
namespace Go.Proofs.Ytnbplionaojabaa
open Go.RowKit
set_option linter.unusedVariables false

/-- The two values have no block in common. -/
def Apart (v u : Value) : Prop := ∀ k, v.ownBlock = some k → u.ownBlock ≠ some k
theorem Apart.symm {v u : Value} (h : Apart v u) : Apart u v := fun k h1 h2 => h k h2 h1
theorem Apart.nil (u : Value) : Apart (.slice none 0 0) u := fun k h => by simp [Value.ownBlock] at h

/-- Colors that the call owns, made since the world W. -/
def OwnC (W w : World) (v : Value) (cs : List (List Int)) : Prop := w.ownsRow W.heap.size 46 4 v cs.length (cs.flatten.map (Value.int .i64)) ∧ Grows W w
theorem OwnC.nil {W w : World} (h : Grows W w) : OwnC W w (.slice none 0 0) [] := ⟨World.ownsRow_nil _ _ _ _, h⟩

theorem OwnI.kept {W w w' : World} {v : Value} {xs : List Int} {row : Option Nat} (h : OwnI W w v xs) (hg : w.grownBy w' row) (hr : ∀ k, row = some k → W.heap.size ≤ k) (hne : ∀ k, v.ownBlock = some k → row ≠ some k) : OwnI W w' v xs := by
  refine ⟨h.1.kept hg ?_, h.2.grown' hg hr⟩
  cases hb : v.ownBlock with
  | none => exact .inl rfl
  | some k => exact .inr fun e => hne k hb e.symm
theorem OwnC.kept {W w w' : World} {v : Value} {xs : List (List Int)} {row : Option Nat} (h : OwnC W w v xs) (hg : w.grownBy w' row) (hr : ∀ k, row = some k → W.heap.size ≤ k) (hne : ∀ k, v.ownBlock = some k → row ≠ some k) : OwnC W w' v xs := by
  refine ⟨h.1.kept hg ?_, h.2.grown' hg hr⟩
  cases hb : v.ownBlock with
  | none => exact .inl rfl
  | some k => exact .inr fun e => hne k hb e.symm
theorem OwnC.later {W w w' : World} {v : Value} {xs : List (List Int)} (h : OwnC W w v xs) (hg : Grows w w') : OwnC W w' v xs :=
  h.kept (grown_of (row := none) hg) (fun k hk => by cases hk) (fun k hk => by simp)
/-- The block of an owned row. -/
theorem own_block {w : World} {base n k : Nat} {e : TypeId} {size : Nat} {v : Value} {xs : List Value} (h : w.ownsRow base e size v n xs) (hk : v.ownBlock = some k) : base ≤ k ∧ k < w.heap.size ∧ ∃ cur, w.heap[k]? = some (.cells cur e (0, 0)) := by
  rcases h.2 with ⟨rfl, _⟩ | ⟨g, cap, cur, rfl, hg, hh, _⟩
  · simp [Value.ownBlock] at hk
  · have e : g = k := by simpa [Value.ownBlock] using hk
    subst e
    exact ⟨hg, (Array.getElem?_eq_some_iff.1 hh).1, cur, hh⟩
theorem px_block {w : World} {pb N : Nat} {f : Nat → Int} (h : Px w pb N f) : ∃ cur, w.heap[pb]? = some (.cells cur 5 (0, 0)) := by
  obtain ⟨cur, h1, _⟩ := h
  exact ⟨cur, h1⟩
theorem OwnI.form2 {W w : World} {v : Value} {xs : List Int} (h : OwnI W w v xs) : ∃ A c, v = .slice A xs.length c := h.form
theorem OwnC.form {W w : World} {v : Value} {cs : List (List Int)} (h : OwnC W w v cs) : ∃ A c, v = .slice A cs.length c := by
  rcases h.1.2 with ⟨rfl, h0⟩ | ⟨g, cap, cur, hv, _⟩
  · exact ⟨none, 0, by rw [h0]⟩
  · exact ⟨_, _, hv⟩

theorem OwnC.one {W w : World} {v : Value} {l : List Int} (h : OwnC W w v [l]) : ∃ g cap, v = .slice (some ⟨g, 0, none⟩) 1 cap ∧ ∀ j m, l[j]? = some m → w.cell? ⟨g, j, none⟩ = some (.int .i64 m) := by
  rcases h.1.2 with ⟨_, h0⟩ | ⟨g, cap, cur, rfl, _⟩
  · simp at h0
  · refine ⟨g, cap, rfl, fun j m hj => ?_⟩
    have hc := h.1.cells (g := g) rfl j (.int .i64 m) (by simp [hj])
    have e : (⟨g, 0, none⟩ : Addr).add j = ⟨g, j, none⟩ := by unfold Addr.add; split <;> simp_all
    rw [e] at hc
    exact hc

theorem pushI_at {ops : Array Oper} {rest : List Oper} {o : Oper} {a : Act} {Q : Exit → Act → World → Prop} {w : World} (hgd : o.guard = none) (s x : Operand)
    (ho : o.op = .call { callee := .builtin .append, args := #[s, x], argTypes := #[24, 24] }) (W : World) (v : Value) (xs : List Int) (n : Int) (hs : a.eval s = v) (hown : OwnI W w v xs)
    (g : Nat) (hx : a.eval x = .slice (some ⟨g, 0, none⟩) 1 1) (hc : w.cell? ⟨g, 0, none⟩ = some (.int .i64 n)) (hl : xs.length < 17592186044416)
    (h : ∀ v' w', OwnI W w' v' (xs ++ [n]) → w.grownBy w' v.ownBlock → (v'.ownBlock = v.ownBlock ∨ v'.ownBlock = some w.heap.size) → wpList Try.prog ops Q rest (a.put o.dst v') w') : wpList Try.prog ops Q (o :: rest) a w := by
  obtain ⟨i0, hi, hz0, hz1, hz2⟩ := info_parts info_int
  refine wpList_append_own_at w hgd s x 24 ho W.heap.size 3 i0 (.int .i64 0) 1 8 Try.underlying24 hi hz0 hz1 hz2 rfl (by decide) v xs.length _ hs hown.1 ⟨g, 0, none⟩ 1 1 [.int .i64 n] hx rfl ?_ ?_ ?_ ?_ hown.2.size ?_
  · intro j u hj
    match j, hj with
    | 0, hj => simp at hj; subst hj; simpa [Addr.add] using hc
  · intro u hu; simp at hu; subst hu; rfl
  · unfold maxLen; omega
  · omega
  · intro v' w' ho' hg _ hat
    refine h v' w' ⟨by simpa using ho', ?_⟩ hg hat
    exact hown.2.grown' hg fun k hk => (hown.1.lt k hk).1

theorem info_color : (Try.prog.info? 46).map (fun i => (i.zero, i.size, i.bytes)) = some (some (.agg #[.int .i64 0, .int .i64 0, .int .i64 0, .int .i64 0]), 4, 32) := by kernel_rfl

theorem pushC_at {ops : Array Oper} {rest : List Oper} {o : Oper} {a : Act} {Q : Exit → Act → World → Prop} {w : World} (hgd : o.guard = none) (s x : Operand)
    (ho : o.op = .call { callee := .builtin .append, args := #[s, x], argTypes := #[32, 32] }) (W : World) (v : Value) (cs : List (List Int)) (ns : List Int) (hns : ns.length = 4) (hs : a.eval s = v) (hown : OwnC W w v cs)
    (g : Nat) (hx : a.eval x = .slice (some ⟨g, 0, none⟩) 1 1) (hc : ∀ j m, ns[j]? = some m → w.cell? ⟨g, j, none⟩ = some (.int .i64 m)) (hl : cs.length < 4000000000000)
    (h : ∀ v' w', OwnC W w' v' (cs ++ [ns]) → w.grownBy w' v.ownBlock → (v'.ownBlock = v.ownBlock ∨ v'.ownBlock = some w.heap.size) → wpList Try.prog ops Q rest (a.put o.dst v') w') : wpList Try.prog ops Q (o :: rest) a w := by
  obtain ⟨i0, hi, hz0, hz1, hz2⟩ := info_parts info_color
  refine wpList_append_own_at w hgd s x 32 ho W.heap.size 46 i0 (.agg #[.int .i64 0, .int .i64 0, .int .i64 0, .int .i64 0]) 4 32 Try.underlying32 hi hz0 hz1 hz2 rfl (by decide) v cs.length _ hs hown.1 ⟨g, 0, none⟩ 1 1 (ns.map (Value.int .i64)) hx (by simp [hns]) ?_ ?_ ?_ ?_ hown.2.size ?_
  · intro j u hj
    rw [List.getElem?_map] at hj
    obtain ⟨m, hm, rfl⟩ := Option.map_eq_some_iff.1 hj
    have e : (⟨g, 0, none⟩ : Addr).add j = ⟨g, j, none⟩ := by unfold Addr.add; split <;> simp_all
    rw [e]
    exact hc j m hm
  · intro u hu
    obtain ⟨m, _, rfl⟩ := List.mem_map.1 hu
    rfl
  · unfold maxLen; omega
  · omega
  · intro v' w' ho' hg _ hat
    refine h v' w' ⟨by simpa using ho', ?_⟩ hg hat
    exact hown.2.grown' hg fun k hk => (hown.1.lt k hk).1

/-! ### Steps in memory -/
/-- The numbers of a step, in the order of its cells. -/
def nums (s : Stp) : List Int := [s.1, s.2.1, s.2.2.1, s.2.2.2.1.1, s.2.2.2.1.2.1, s.2.2.2.1.2.2.1, s.2.2.2.1.2.2.2, s.2.2.2.2.1, s.2.2.2.2.2.1, s.2.2.2.2.2.2.1, s.2.2.2.2.2.2.2]
theorem nums_length (s : Stp) : (nums s).length = 11 := rfl
/-- A slice that reads as a list of steps. -/
def RdS (w : World) (v : Value) (ss : List Stp) : Prop :=
  ∃ (A : Option Addr) (c : Nat), v = .slice A ss.length c ∧ ss.length ≤ c ∧ c ≤ 9223372036854775807 ∧ ss.length ≤ 1600000000000 ∧ (∀ s ∈ ss, ∀ n ∈ nums s, -9223372036854775808 ≤ n ∧ n ≤ 9223372036854775807) ∧
    ∀ (j : Nat) (s : Stp), ss[j]? = some s → ∃ b o, A = some ⟨b, o, none⟩ ∧ ∀ i n, (nums s)[i]? = some n → w.cell? ⟨b, o + j * 11 + i, none⟩ = some (.int .i64 n)
theorem RdS.grows {w w' : World} {v : Value} {ss : List Stp} (h : RdS w v ss) (hg : Grows w w') : RdS w' v ss := by
  obtain ⟨A, c, h1, h2, h2', h3, h4, h5⟩ := h
  refine ⟨A, c, h1, h2, h2', h3, h4, fun j n hj => ?_⟩
  obtain ⟨b, o, ha, hc⟩ := h5 j n hj
  exact ⟨b, o, ha, fun i n hi => hg.cell_some (hc i n hi)⟩
theorem flat_at {ss : List Stp} {j i : Nat} {s : Stp} (h : ss[j]? = some s) (hi : i < 11) : (ss.flatMap nums)[j * 11 + i]? = (nums s)[i]? := by
  induction ss generalizing j with
  | nil => simp at h
  | cons s0 t ih =>
    rw [List.flatMap_cons]
    cases j with
    | zero =>
      simp only [List.getElem?_cons_zero, Option.some.injEq] at h
      subst h
      rw [Nat.zero_mul, Nat.zero_add, List.getElem?_append_left (by rw [nums_length]; omega)]
    | succ j =>
      rw [List.getElem?_append_right (by rw [nums_length]; omega), nums_length]
      have e : (j + 1) * 11 + i - 11 = j * 11 + i := by omega
      rw [e]
      exact ih (by simpa using h)
/-- Steps in a block that was made last. -/
theorem RdS.lit {w : World} {T : TypeId} {ss : List Stp} (hl : ss.length ≤ 1000) (hw : ∀ s ∈ ss, ∀ n ∈ nums s, -9223372036854775808 ≤ n ∧ n ≤ 9223372036854775807) :
    RdS (w.alloc (.cells ((ss.flatMap nums).map (Value.int .i64)).toArray T)) (.slice (some ⟨w.heap.size, 0, none⟩) ss.length ss.length) ss := by
  refine ⟨_, ss.length, rfl, Nat.le_refl _, by omega, by omega, hw, fun j s hj => ⟨w.heap.size, 0, rfl, fun i n hi => ?_⟩⟩
  refine cell_top rfl ?_
  have hi11 : i < 11 := by have := (List.getElem?_eq_some_iff.1 hi).1; rwa [nums_length] at this
  rw [Nat.zero_add, List.getElem?_toArray, List.getElem?_map, flat_at hj hi11, hi]
  rfl
end Go.Proofs.Ytnbplionaojabaa

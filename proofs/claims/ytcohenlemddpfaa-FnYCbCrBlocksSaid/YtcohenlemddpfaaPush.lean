/-
  'out = append(out, n)' for a slice of ints of the call's own, as one step of a walk. Conditions: the slice is the call's own and holds fewer than 2^44 ints.
-/
import Derived.Test.YtcohenlemddpfaaRows
import Derived.Test.YtcohenlemddpfaaBase
namespace Go.Proofs.Ytcohenlemddpfaa
open Go.RowKit
set_option linter.unusedVariables false

theorem info_int : (Try.prog.info? 3).map (fun i => (i.zero, i.size, i.bytes)) = some (some (.int .i64 0), 1, 8) := by kernel_rfl

/-- What the call owns: a slice of ints, made since the world W. -/
def OwnI (W w : World) (v : Value) (xs : List Int) : Prop := w.ownsRow W.heap.size 3 1 v xs.length (xs.map (Value.int .i64)) ∧ Grows W w

theorem OwnI.nil {W w : World} (h : Grows W w) : OwnI W w (.slice none 0 0) [] := ⟨World.ownsRow_nil _ _ _ _, h⟩
theorem OwnI.rd {W w : World} {v : Value} {xs : List Int} (h : OwnI W w v xs) (hl : xs.length ≤ 17592186044416) (hz : ∀ n ∈ xs, -9223372036854775808 ≤ n ∧ n ≤ 9223372036854775807) : RdI w v xs := Rd.of_own h.1 hl hz
theorem OwnI.later {W w w' : World} {v : Value} {xs : List Int} (h : OwnI W w v xs) (hg : Grows w w') : OwnI W w' v xs := by
  refine ⟨?_, h.2.step hg⟩
  have hk : w.grownBy w' none := ⟨hg.os, hg.tape, hg.output, hg.size, fun k hk _ => hg.block k hk⟩
  refine h.1.kept hk ?_
  cases v.ownBlock with
  | none => exact .inl rfl
  | some k => exact .inr (by simp)

theorem OwnI.form {W w : World} {v : Value} {xs : List Int} (h : OwnI W w v xs) : ∃ A c, v = .slice A xs.length c := by
  rcases h.1.2 with ⟨rfl, h0⟩ | ⟨g, cap, cur, hv, _⟩
  · exact ⟨none, 0, by rw [h0]⟩
  · exact ⟨_, _, hv⟩
theorem OwnI.base {W W' w : World} {v : Value} {xs : List Int} (h : OwnI W' w v xs) (hg : Grows W W') : OwnI W w v xs := by
  refine ⟨⟨h.1.1, ?_⟩, hg.step h.2⟩
  rcases h.1.2 with h2 | ⟨g, cap, cur, hv, hg', r⟩
  · exact .inl h2
  · exact .inr ⟨g, cap, cur, hv, Nat.le_trans hg.size hg', r⟩

/-- .. while a box of the call's own, made ahead of it, is written. -/
def OwnX (B : Nat) (W w : World) (v : Value) (xs : List Int) : Prop := w.ownsRow B 3 1 v xs.length (xs.map (Value.int .i64)) ∧ Grows W w
theorem OwnX.start {W W' w : World} {v : Value} {xs : List Int} (h : OwnI W' w v xs) (hW : Grows W W') : OwnX W'.heap.size W w v xs := ⟨h.1, hW.step h.2⟩
theorem OwnX.set {B : Nat} {W w : World} {v : Value} {xs : List Int} (h : OwnX B W w v xs) {b o : Nat} (h1 : W.heap.size ≤ b) (h2 : b < B) (u : Value) : OwnX B W (w.setCell ⟨b, o, none⟩ u) v xs :=
  ⟨ownsRow_setCell_below h.1 h2 u, h.2.set' h1 u⟩
theorem OwnX.own {B : Nat} {W w : World} {v : Value} {xs : List Int} (h : OwnX B W w v xs) (hB : W.heap.size ≤ B) : OwnI W w v xs := by
  refine ⟨⟨h.1.1, ?_⟩, h.2⟩
  rcases h.1.2 with h2 | ⟨g, cap, cur, hv, hg', r⟩
  · exact .inl h2
  · exact .inr ⟨g, cap, cur, hv, Nat.le_trans hB hg', r⟩

theorem push_wp {ops : Array Oper} {rest : List Oper} {o : Oper} {a : Act} {Q : Exit → Act → World → Prop} {w : World} (hgd : o.guard = none) (s x : Operand)
    (ho : o.op = .call { callee := .builtin .append, args := #[s, x], argTypes := #[24, 24] }) (W : World) (v : Value) (xs : List Int) (n : Int) (hs : a.eval s = v) (hown : OwnI W w v xs)
    (g : Nat) (hx : a.eval x = .slice (some ⟨g, 0, none⟩) 1 1) (hc : w.cell? ⟨g, 0, none⟩ = some (.int .i64 n)) (hl : xs.length < 17592186044416)
    (h : ∀ v' w', OwnI W w' v' (xs ++ [n]) → wpList Try.prog ops Q rest (a.put o.dst v') w') : wpList Try.prog ops Q (o :: rest) a w := by
  obtain ⟨i0, hi, hz0, hz1, hz2⟩ := info_parts info_int
  refine wpList_append_own w hgd s x 24 ho W.heap.size 3 i0 (.int .i64 0) 1 8 Try.underlying24 hi hz0 hz1 hz2 rfl (by decide) v xs.length _ hs hown.1 ⟨g, 0, none⟩ 1 1 [.int .i64 n] hx rfl ?_ ?_ ?_ ?_ hown.2.size ?_
  · intro j u hj
    match j, hj with
    | 0, hj => simp at hj; subst hj; simpa [Addr.add] using hc
  · intro u hu; simp at hu; subst hu; rfl
  · unfold maxLen; omega
  · omega
  · intro v' w' ho' hg _
    refine h v' w' ⟨by simpa using ho', ?_⟩
    exact hown.2.grown' hg fun k hk => (hown.1.lt k hk).1
end Go.Proofs.Ytcohenlemddpfaa

/-
  'append([]int(nil), xs...)': a copy of the call's own. Conditions: xs reads as a list.
-/
import Derived.Test.YtnbplionaojabaaPush
import Derived.Laws.OwnMore
namespace Go.Proofs.Ytnbplionaojabaa
open Go.RowKit
set_option linter.unusedVariables false

theorem run_copy_none (c : Nat) (ty : TypeId) (w : World) : (Builtin.append_ #[24, 24] ty #[.slice none 0 0, .slice none 0 c]).run Try.prog w = .ok (.slice none 0 0) w := by
  obtain ⟨i0, hi, hz0, hz1, hz2⟩ := info_parts info_int
  simp [Builtin.append_, run_underlying Try.underlying24, sizeOf, typeInfo, hi, Builtin.lenOf, Builtin.firstCells]

theorem copy_wp {ops : Array Oper} {rest : List Oper} {o : Oper} {a : Act} {Q : Exit → Act → World → Prop} {w : World} (hgd : o.guard = none) (s x : Operand)
    (ho : o.op = .call { callee := .builtin .append, args := #[s, x], argTypes := #[24, 24] }) (W : World) (v : Value) (xs : List Int) (hs : a.eval s = .slice none 0 0) (hx : a.eval x = v) (hr : RdI w v xs) (hW : Grows W w)
    (h : ∀ v' w', OwnI W w' v' xs → Grows w w' → wpList Try.prog ops Q rest (a.put o.dst v') w') : wpList Try.prog ops Q (o :: rest) a w := by
  obtain ⟨i0, hi, hz0, hz1, hz2⟩ := info_parts info_int
  obtain ⟨A, c, rfl, hc1, hc2, hc3, hc4, hc5⟩ := hr
  have key : ∀ ad : Addr, A = some ad → wpList Try.prog ops Q (o :: rest) a w := by
    rintro ad rfl
    refine wpList_append_own w hgd s x 24 ho W.heap.size 3 i0 (.int .i64 0) 1 8 Try.underlying24 hi hz0 hz1 hz2 rfl (by decide) _ 0 [] hs (World.ownsRow_nil _ _ _ _) ad xs.length c (xs.map (Value.int .i64)) hx (by simp) ?_ ?_ ?_ ?_ hW.size ?_
    · intro j u hj
      rw [List.getElem?_map] at hj
      obtain ⟨n, hn, rfl⟩ := Option.map_eq_some_iff.1 hj
      obtain ⟨b, o, e, hcell⟩ := hc5 j n hn
      cases e
      have e : (⟨b, o, none⟩ : Addr).add j = ⟨b, o + j, none⟩ := by unfold Addr.add; split <;> simp_all
      rw [e]
      exact hcell
    · intro u hu
      obtain ⟨n, _, rfl⟩ := List.mem_map.1 hu
      rfl
    · unfold maxLen; omega
    · omega
    · intro v' w' ho' hg _
      have hg' : Grows w w' := (Grows.rfl' w).grown' hg fun k hk => by simp [Value.ownBlock] at hk
      exact h v' w' ⟨by simpa using ho', hW.step hg'⟩ hg'
  cases A with
  | some ad => exact key ad rfl
  | none =>
    have hx0 : xs = [] := by
      cases xs with
      | nil => rfl
      | cons n t => obtain ⟨b, o, e, _⟩ := hc5 0 n rfl; cases e
    subst hx0
    refine wpList_plain hgd fun K hK => ?_
    have hrun := run_copy_none c o.type w
    unfold Oper.wp
    simp only [List.length_nil] at hx
    simp [execOp, ho, resolve, invoke, builtin, hs, hx, hrun, Result.andThen]
    exact hK _ _ (h _ _ (OwnI.nil hW) (Grows.rfl' _))
end Go.Proofs.Ytnbplionaojabaa

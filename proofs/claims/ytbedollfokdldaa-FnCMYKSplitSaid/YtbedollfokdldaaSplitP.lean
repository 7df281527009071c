/-
  Plain words for a script that is cut in two: what it reads and leaves. No program in sight.
-/
import Derived.Test.YtbedollfokdldaaRows2
namespace Go.Proofs.Ytbedollfokdldaa
open Go.RowKit
set_option linter.unusedVariables false

/-- Two states that agree on n bytes. -/
def Agree (n : Nat) (S T : St) : Prop := S.1 = T.1 ∧ (∀ i, i < n → S.2.1 i = T.2.1 i) ∧ S.2.2 = T.2.2
theorem Agree.step {a b c d : Int} {k : Nat} {S T : St} (hk : k ≤ 4) (hf : Fine a b c d) (hv : Vw a b c d S.1) (h : Agree (total a b c d k) S T) (s : Stp) : Agree (total a b c d k) (stp a b c d k S s) (stp a b c d k T s) := by
  obtain ⟨v, f, cols, offs, ok⟩ := S
  obtain ⟨v', f', cols', offs', ok'⟩ := T
  obtain ⟨h1, h2, h3⟩ := h
  simp only at h1 h2 h3 hv
  subst h1
  simp only [Prod.mk.injEq] at h3
  obtain ⟨rfl, rfl, rfl⟩ := h3
  obtain ⟨t, x, y, q, r⟩ := s
  unfold stp
  simp only
  split
  · refine ⟨rfl, fun i hi => ?_, rfl⟩
    simp only
    unfold putV
    split
    · unfold putF
      split
      · rfl
      · exact h2 i hi
    · exact h2 i hi
  split
  · refine ⟨rfl, h2, ?_⟩
    simp only
    have e : bytesOf k (getV a b c k v f x y) = bytesOf k (getV a b c k v f' x y) := by
      refine bytesOf_congr fun j hj => ?_
      unfold getV
      split
      · rename_i hin
        obtain ⟨i, hi, hil⟩ := inside_at hf hk (hv.inn hin)
        have hp : pos a b c k x y = i := by unfold pos; rw [hi]; simp
        rw [hp]
        exact h2 _ (by omega)
      · rfl
    rw [e]
  split
  · exact ⟨rfl, h2, rfl⟩
  split
  · exact ⟨rfl, h2, rfl⟩
  split
  · exact ⟨rfl, h2, rfl⟩
  · exact ⟨rfl, h2, rfl⟩
theorem Vw.step {a b c d : Int} {k : Nat} {S : St} (hab : a ≤ c ∧ b ≤ d) (h : Vw a b c d S.1) (s : Stp) : Vw a b c d (stp a b c d k S s).1 := by
  obtain ⟨v, f, cols, offs, ok⟩ := S
  obtain ⟨t, x, y, q, r⟩ := s
  simp only at h
  unfold stp
  simp only
  split
  · exact h
  split
  · exact h
  split
  · exact h
  split
  · exact h.inter _
  split
  · exact .inr (by simp only; omega)
  · exact h
theorem foldl_agree {a b c d : Int} {k : Nat} (hk : k ≤ 4) (hf : Fine a b c d) (ss : List Stp) : ∀ S T : St, Vw a b c d S.1 → Agree (total a b c d k) S T → Agree (total a b c d k) (ss.foldl (stp a b c d k) S) (ss.foldl (stp a b c d k) T) := by
  induction ss with
  | nil => exact fun S T _ h => h
  | cons s t ih => exact fun S T hv h => ih _ _ (hv.step ⟨hf.2.2.1.1, hf.2.2.1.2⟩ s) (h.step hk hf hv s)
/-- What was read before stands ahead. -/
theorem foldl_cols {a b c d : Int} {k : Nat} (ss : List Stp) : ∀ (v : Bx) (f : Nat → Int) (cs cols : List (List Int)) (os offs : List Int) (o ok : Bool),
    let S := ss.foldl (stp a b c d k) (v, f, cols, offs, ok)
    let T := ss.foldl (stp a b c d k) (v, f, cs ++ cols, os, o)
    T.1 = S.1 ∧ T.2.1 = S.2.1 ∧ T.2.2.1 = cs ++ S.2.2.1 := by
  induction ss with
  | nil => exact fun v f cs cols os offs o ok => ⟨rfl, rfl, rfl⟩
  | cons s t ih =>
    intro v f cs cols os offs o ok
    obtain ⟨kd, x, y, q, r⟩ := s
    simp only [List.foldl_cons]
    unfold stp
    simp only
    split
    · exact ih _ _ cs cols _ _ _ _
    split
    · have := ih v f cs (cols ++ [bytesOf k (getV a b c k v f x y)]) os offs (o && decide (InB v x y)) (ok && decide (InB v x y))
      rw [← List.append_assoc] at this
      exact this
    split
    · exact ih _ _ cs cols _ _ _ _
    split
    · exact ih _ _ cs cols _ _ _ _
    split
    · exact ih _ _ cs cols _ _ _ _
    · exact ih _ _ cs cols _ _ _ _

/-- A script with a step back to the whole image in it. -/
theorem split_run {a b c d : Int} {k : Nat} (hk : k ≤ 4) (hf : Fine a b c d) (f : Nat → Int) (hf0 : ∀ i, 0 ≤ f i ∧ f i ≤ 255) (s1 s2 : List Stp) (z z' : Bx) (x y : Int) :
    let S1 := runF a b c d k f s1
    let S2 := runF a b c d k (byteAt (bytesOf (total a b c d k) S1.2.1)) s2
    let J := runF a b c d k f (s1 ++ [(5, x, y, z, z')] ++ s2)
    J.2.2.1 = S1.2.2.1 ++ S2.2.2.1 ∧ bytesOf (total a b c d k) J.2.1 = bytesOf (total a b c d k) S2.2.1 := by
  intro S1 S2 J
  have hab : a ≤ c ∧ b ≤ d := ⟨hf.2.2.1.1, hf.2.2.1.2⟩
  have ok1 := runF_okay (k := k) hab hf0 s1 s1.length (Nat.le_refl _)
  rw [List.take_length] at ok1
  have eJ : J = s2.foldl (stp a b c d k) ((a, b, c, d), S1.2.1, S1.2.2.1 ++ [], S1.2.2.2.1, S1.2.2.2.2) := by
    show (s1 ++ [(5, x, y, z, z')] ++ s2).foldl (stp a b c d k) ((a, b, c, d), f, [], [], true) = _
    rw [List.foldl_append, List.foldl_append, List.append_nil]
    rfl
  have hc := foldl_cols (a := a) (b := b) (c := c) (d := d) (k := k) s2 (a, b, c, d) S1.2.1 S1.2.2.1 [] S1.2.2.2.1 [] S1.2.2.2.2 true
  simp only at hc
  rw [← eJ] at hc
  have hag := foldl_agree hk hf s2 ((a, b, c, d), S1.2.1, [], [], true) ((a, b, c, d), byteAt (bytesOf (total a b c d k) S1.2.1), [], [], true) (.inr (by simp only; omega)) ⟨rfl, fun i hi => (byteAt_bytesOf ok1.2.1 hi).symm, rfl⟩
  obtain ⟨h1, h2, h3⟩ := hag
  refine ⟨?_, ?_⟩
  · rw [hc.2.2]
    congr 1
    exact congrArg (·.1) h3
  · rw [hc.2.1]
    exact bytesOf_congr h2
end Go.Proofs.Ytbedollfokdldaa

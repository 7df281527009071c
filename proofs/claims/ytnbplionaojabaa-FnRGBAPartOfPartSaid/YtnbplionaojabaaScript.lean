/-
  Plain words for short scripts: what they read and leave. No program in sight.
-/
import Derived.Test.YtnbplionaojabaaRows2
namespace Go.Proofs.Ytnbplionaojabaa
open Go.RowKit
set_option linter.unusedVariables false

theorem lows_length {k : Nat} (hk : k ≤ 4) (q : Bx) : (lows k q).length = k := by
  unfold lows
  rw [List.length_take]
  simp; omega
/-- What was written is read. -/
theorem get_put {a b c d x y : Int} {k : Nat} {v u : Bx} {f : Nat → Int} {q : Bx} (hk : k ≤ 4) (h1 : InB v x y) (h2 : InB u x y) : bytesOf k (getV a b c k v (putV a b c k u f x y (lows k q)) x y) = lows k q := by
  have hl := lows_length hk q
  apply List.ext_getElem?
  intro j
  by_cases hj : j < k
  · rw [bytesOf_at hj]
    unfold getV putV
    rw [if_pos h1, if_pos h2]
    unfold putF
    rw [if_pos (by omega), List.getD_eq_getElem?_getD, List.getElem?_eq_getElem (by omega)]
    simp
  · rw [List.getElem?_eq_none (by rw [bytesOf_length]; omega), List.getElem?_eq_none (by omega)]
theorem putV_part {a b c d x y : Int} {k : Nat} {v : Bx} {f : Nat → Int} {ns : List Int} (h1 : InB v x y) (h2 : Inn a b c d x y) : putV a b c k v f x y ns = wr a b c d k f x y ns := by
  unfold putV wr
  rw [if_pos h1, if_pos h2]
  rfl

/-- Written through a part, read in the whole. -/
theorem script_share1 {a b c d a' b' c' d' x y : Int} {k : Nat} {f : Nat → Int} {q z : Bx} (hk : k ≤ 4) (hm : Meet a b c d a' b' c' d') (hi : Inn (max a a') (max b b') (min c c') (min d d') x y) :
    runF a b c d k f [(4, 0, 0, z, (a', b', c', d')), (1, x, y, q, z), (5, 0, 0, z, z), (2, x, y, z, z)] = ((a, b, c, d), wr a b c d k f x y (lows k q), [lows k q], [], true) := by
  have hin : Inn a b c d x y := by unfold Inn at hi ⊢; omega
  have h0 : InB (max a a', max b b', min c c', min d d') x y := hi
  have h1 : InB (a, b, c, d) x y := hin
  show (((a, b, c, d) : Bx), putV a b c k (interB (a, b, c, d) (a', b', c', d')) f x y (lows k q), [bytesOf k (getV a b c k (a, b, c, d) (putV a b c k (interB (a, b, c, d) (a', b', c', d')) f x y (lows k q)) x y)], [], (true && decide (InB (interB (a, b, c, d) (a', b', c', d')) x y)) && decide (InB (a, b, c, d) x y)) = _
  rw [interB_yes hm, get_put (d := d) hk h1 h0, putV_part h0 hin, decide_eq_true h0, decide_eq_true h1]
  rfl
/-- Written in the whole, read through a part. -/
theorem script_share2 {a b c d a' b' c' d' x y : Int} {k : Nat} {f : Nat → Int} {q z : Bx} (hk : k ≤ 4) (hm : Meet a b c d a' b' c' d') (hi : Inn (max a a') (max b b') (min c c') (min d d') x y) :
    runF a b c d k f [(1, x, y, q, z), (4, 0, 0, z, (a', b', c', d')), (2, x, y, z, z)] = ((max a a', max b b', min c c', min d d'), wr a b c d k f x y (lows k q), [lows k q], [], true) := by
  have hin : Inn a b c d x y := by unfold Inn at hi ⊢; omega
  have h0 : InB (max a a', max b b', min c c', min d d') x y := hi
  have h1 : InB (a, b, c, d) x y := hin
  show (interB (a, b, c, d) (a', b', c', d'), putV a b c k (a, b, c, d) f x y (lows k q), [bytesOf k (getV a b c k (interB (a, b, c, d) (a', b', c', d')) (putV a b c k (a, b, c, d) f x y (lows k q)) x y)], [], (true && decide (InB (a, b, c, d) x y)) && decide (InB (interB (a, b, c, d) (a', b', c', d')) x y)) = _
  rw [interB_yes hm, get_put (d := d) hk h0 h1, putV_part h1 hin, decide_eq_true h0, decide_eq_true h1]
  rfl
/-- A point of a part of a part, and the part's first offset. -/
theorem script_part2 {a b c d a' b' c' d' a'' b'' c'' d'' x y : Int} {k : Nat} {f : Nat → Int} {z : Bx} (hk : k ≤ 4) (hm : Meet a b c d a' b' c' d') (hm2 : Meet (max a a') (max b b') (min c c') (min d d') a'' b'' c'' d'')
    (hi : Inn (max (max a a') a'') (max (max b b') b'') (min (min c c') c'') (min (min d d') d'') x y) :
    runF a b c d k f [(4, 0, 0, z, (a', b', c', d')), (4, 0, 0, z, (a'', b'', c'', d'')), (2, x, y, z, z), (3, max (max a a') a'', max (max b b') b'', z, z)] = ((max (max a a') a'', max (max b b') b'', min (min c c') c'', min (min d d') d''), f, [bytesOf k fun j => f (pos a b c k x y + j)], [0], true) := by
  have h0 : InB (max (max a a') a'', max (max b b') b'', min (min c c') c'', min (min d d') d'') x y := hi
  have h1 : InB (max (max a a') a'', max (max b b') b'', min (min c c') c'', min (min d d') d'') (max (max a a') a'') (max (max b b') b'') := by
    obtain ⟨m1, m2⟩ := hm2
    show Inn _ _ _ _ _ _
    unfold Inn; simp only; omega
  show (interB (interB (a, b, c, d) (a', b', c', d')) (a'', b'', c'', d''), f, [bytesOf k (getV a b c k (interB (interB (a, b, c, d) (a', b', c', d')) (a'', b'', c'', d'')) f x y)], [offV a c k (interB (interB (a, b, c, d) (a', b', c', d')) (a'', b'', c'', d'')) (max (max a a') a'') (max (max b b') b'')], (true && decide (InB (interB (interB (a, b, c, d) (a', b', c', d')) (a'', b'', c'', d'')) x y)) && decide (InB (interB (interB (a, b, c, d) (a', b', c', d')) (a'', b'', c'', d'')) (max (max a a') a'') (max (max b b') b''))) = _
  rw [interB_yes hm, interB_yes hm2, decide_eq_true h0, decide_eq_true h1]
  have e1 : getV a b c k (max (max a a') a'', max (max b b') b'', min (min c c') c'', min (min d d') d'') f x y = fun j => f (pos a b c k x y + j) := by
    funext j
    unfold getV
    rw [if_pos h0]
  have e2 : offV a c k (max (max a a') a'', max (max b b') b'', min (min c c') c'', min (min d d') d'') (max (max a a') a'') (max (max b b') b'') = 0 := by
    unfold offV
    simp
  rw [e1, e2]
  rfl
theorem script_part2v {a b c d a' b' c' d' a'' b'' c'' d'' x y A1 B1 C1 D1 A2 B2 C2 D2 : Int} {k : Nat} {f : Nat → Int} {z : Bx} (hk : k ≤ 4) (e1 : max a a' = A1 ∧ max b b' = B1 ∧ min c c' = C1 ∧ min d d' = D1) (e2 : max A1 a'' = A2 ∧ max B1 b'' = B2 ∧ min C1 c'' = C2 ∧ min D1 d'' = D2)
    (hm : Meet a b c d a' b' c' d') (hm2 : Meet A1 B1 C1 D1 a'' b'' c'' d'') (hi : Inn A2 B2 C2 D2 x y) :
    runF a b c d k f [(4, 0, 0, z, (a', b', c', d')), (4, 0, 0, z, (a'', b'', c'', d'')), (2, x, y, z, z), (3, A2, B2, z, z)] = ((A2, B2, C2, D2), f, [bytesOf k fun j => f (pos a b c k x y + j)], [0], true) := by
  obtain ⟨rfl, rfl, rfl, rfl⟩ := e1
  obtain ⟨rfl, rfl, rfl, rfl⟩ := e2
  exact script_part2 hk hm hm2 hi
theorem px_pos {a b c d x y : Int} {k : Nat} {zs : List Int} (h : Inn a b c d x y) (j : Nat) : px a b c d k zs x y j = byteAt zs (pos a b c k x y + j) := by
  unfold px pos
  rw [if_pos h]
/-- The same for the part itself. -/
theorem script_part1 {a b c d A B C D x y : Int} {k : Nat} {f : Nat → Int} {z : Bx} (hk : k ≤ 4) (hsub : a ≤ A ∧ C ≤ c ∧ b ≤ B ∧ D ≤ d ∧ A < C ∧ B < D) (hi : Inn A B C D x y) :
    runF a b c d k f [(4, 0, 0, z, (A, B, C, D)), (2, x, y, z, z), (3, A, B, z, z)] = ((A, B, C, D), f, [bytesOf k fun j => f (pos a b c k x y + j)], [0], true) := by
  have hm : Meet a b c d A B C D := by unfold Meet; omega
  have h0 : InB (A, B, C, D) x y := hi
  have h1 : InB (A, B, C, D) A B := by
    show Inn _ _ _ _ _ _
    unfold Inn; simp only; omega
  have hv : interB (a, b, c, d) (A, B, C, D) = (A, B, C, D) := by
    rw [interB_yes hm]
    have q1 : max a A = A := by omega
    have q2 : max b B = B := by omega
    have q3 : min c C = C := by omega
    have q4 : min d D = D := by omega
    rw [q1, q2, q3, q4]
  show (interB (a, b, c, d) (A, B, C, D), f, [bytesOf k (getV a b c k (interB (a, b, c, d) (A, B, C, D)) f x y)], [offV a c k (interB (a, b, c, d) (A, B, C, D)) A B], (true && decide (InB (interB (a, b, c, d) (A, B, C, D)) x y)) && decide (InB (interB (a, b, c, d) (A, B, C, D)) A B)) = _
  rw [hv, decide_eq_true h0, decide_eq_true h1]
  have e1 : getV a b c k (A, B, C, D) f x y = fun j => f (pos a b c k x y + j) := by
    funext j
    unfold getV
    rw [if_pos h0]
  have e2 : offV a c k (A, B, C, D) A B = 0 := by
    unfold offV
    simp
  rw [e1, e2]
  rfl
end Go.Proofs.Ytnbplionaojabaa

/-
  A plain model of a script of steps: what is visible, the bytes, the numbers read, the offsets, and whether each step was at a visible point. No program in sight.
-/
import Derived.Test.YtnbplionaojabaaPartOf
namespace Go.Proofs.Ytnbplionaojabaa
open Go.RowKit
set_option linter.unusedVariables false

/-- Four numbers. -/
abbrev Bx := Int × Int × Int × Int
/-- A step: its kind, its point, its color, its rectangle. -/
abbrev Stp := Int × Int × Int × Bx × Bx
/-- The state: what is visible, the bytes, the colors read, the offsets, whether all points were visible. -/
abbrev St := Bx × (Nat → Int) × List (List Int) × List Int × Bool

def InB (v : Bx) (x y : Int) : Prop := Inn v.1 v.2.1 v.2.2.1 v.2.2.2 x y
instance (v : Bx) (x y : Int) : Decidable (InB v x y) := by unfold InB; exact inferInstance
def MeetB (v q : Bx) : Prop := Meet v.1 v.2.1 v.2.2.1 v.2.2.2 q.1 q.2.1 q.2.2.1 q.2.2.2
instance (v q : Bx) : Decidable (MeetB v q) := by unfold MeetB; exact inferInstance
def interB (v q : Bx) : Bx := if MeetB v q then (max v.1 q.1, max v.2.1 q.2.1, min v.2.2.1 q.2.2.1, min v.2.2.2 q.2.2.2) else (0, 0, 0, 0)

theorem interB_yes {A B C D x0 y0 x1 y1 : Int} (h : Meet A B C D x0 y0 x1 y1) : interB (A, B, C, D) (x0, y0, x1, y1) = (max A x0, max B y0, min C x1, min D y1) := if_pos h
theorem interB_no {A B C D x0 y0 x1 y1 : Int} (h : ¬ Meet A B C D x0 y0 x1 y1) : interB (A, B, C, D) (x0, y0, x1, y1) = (0, 0, 0, 0) := if_neg h

/-- Where the first byte of a point lies. -/
def pos (a b c : Int) (k : Nat) (x y : Int) : Nat := ((y - b) * sd a c k + (x - a) * k).toNat
/-- A color's bytes. -/
def lows (k : Nat) (q : Bx) : List Int := [q.1 % 256, q.2.1 % 256, q.2.2.1 % 256, q.2.2.2 % 256].take k
/-- The bytes behind a write. -/
def putV (a b c : Int) (k : Nat) (v : Bx) (f : Nat → Int) (x y : Int) (ns : List Int) : Nat → Int := if InB v x y then putF f (pos a b c k x y) ns else f
/-- What is read. -/
def getV (a b c : Int) (k : Nat) (v : Bx) (f : Nat → Int) (x y : Int) (j : Nat) : Int := if InB v x y then f (pos a b c k x y + j) else 0
def offV (a c : Int) (k : Nat) (v : Bx) (x y : Int) : Int := (y - v.2.1) * sd a c k + (x - v.1) * k

def stp (a b c d : Int) (k : Nat) : St → Stp → St
  | (v, f, cols, offs, ok), (t, x, y, q, r) =>
    if t = 1 then (v, putV a b c k v f x y (lows k q), cols, offs, ok && decide (InB v x y))
    else if t = 2 then (v, f, cols ++ [bytesOf k (getV a b c k v f x y)], offs, ok && decide (InB v x y))
    else if t = 3 then (v, f, cols, offs ++ [offV a c k v x y], ok && decide (InB v x y))
    else if t = 4 then (interB v r, f, cols, offs, ok)
    else if t = 5 then ((a, b, c, d), f, cols, offs, ok)
    else (v, f, cols, offs, ok)

/-- A whole script. -/
def runF (a b c d : Int) (k : Nat) (f : Nat → Int) (ss : List Stp) : St := ss.foldl (stp a b c d k) ((a, b, c, d), f, [], [], true)

theorem runF_snoc (a b c d : Int) (k : Nat) (f : Nat → Int) {ss : List Stp} {j : Nat} {s : Stp} (h : ss[j]? = some s) : runF a b c d k f (ss.take (j + 1)) = stp a b c d k (runF a b c d k f (ss.take j)) s := by
  unfold runF
  rw [List.take_add_one, h, List.foldl_append]
  rfl

/-- A view: the whole or a part of it, or nothing. -/
def Vw (a b c d : Int) (v : Bx) : Prop := v = (0, 0, 0, 0) ∨ (a ≤ v.1 ∧ v.1 ≤ v.2.2.1 ∧ v.2.2.1 ≤ c ∧ b ≤ v.2.1 ∧ v.2.1 ≤ v.2.2.2 ∧ v.2.2.2 ≤ d)
theorem Vw.inn {a b c d x y : Int} {v : Bx} (h : Vw a b c d v) (hi : InB v x y) : Inn a b c d x y := by
  unfold InB Inn at hi
  rcases h with rfl | h
  · simp at hi; omega
  · unfold Inn; omega
theorem Vw.inter {a b c d : Int} {v : Bx} (h : Vw a b c d v) (q : Bx) : Vw a b c d (interB v q) := by
  unfold interB
  split
  · rename_i hm
    unfold MeetB Meet at hm
    rcases h with rfl | h
    · simp at hm; omega
    · right; simp only; omega
  · exact .inl rfl

theorem getV_in255 {a b c x y : Int} {k : Nat} {v : Bx} {f : Nat → Int} (hf : ∀ i, 0 ≤ f i ∧ f i ≤ 255) (j : Nat) : 0 ≤ getV a b c k v f x y j ∧ getV a b c k v f x y j ≤ 255 := by
  unfold getV
  split
  · exact hf _
  · omega
theorem lows_in255 {k : Nat} {q : Bx} : ∀ m ∈ lows k q, 0 ≤ m ∧ m ≤ 255 := by
  intro m hm
  have := List.mem_of_mem_take hm
  simp at this
  omega
theorem putV_in255 {a b c x y : Int} {k : Nat} {v : Bx} {f : Nat → Int} {ns : List Int} (hf : ∀ i, 0 ≤ f i ∧ f i ≤ 255) (hn : ∀ m ∈ ns, 0 ≤ m ∧ m ≤ 255) (i : Nat) : 0 ≤ putV a b c k v f x y ns i ∧ putV a b c k v f x y ns i ≤ 255 := by
  unfold putV
  split
  · exact putF_in255 hf hn i
  · exact hf i

/-- What every state of a script has. -/
def Okay (a b c d : Int) (k n : Nat) (S : St) : Prop := Vw a b c d S.1 ∧ (∀ i, 0 ≤ S.2.1 i ∧ S.2.1 i ≤ 255) ∧ S.2.2.1.length ≤ n ∧ (∀ l ∈ S.2.2.1, l.length = k ∧ ∀ m ∈ l, 0 ≤ m ∧ m ≤ 255) ∧ S.2.2.2.1.length ≤ n
theorem Okay.step {a b c d : Int} {k n : Nat} {S : St} (h : Okay a b c d k n S) (hab : a ≤ c ∧ b ≤ d) (s : Stp) : Okay a b c d k (n + 1) (stp a b c d k S s) := by
  obtain ⟨v, f, cols, offs, ok⟩ := S
  obtain ⟨t, x, y, q, r⟩ := s
  obtain ⟨h1, h2, h3, h4, h5⟩ := h
  simp only at h1 h2 h3 h4 h5
  unfold stp
  simp only
  split
  · exact ⟨h1, putV_in255 h2 lows_in255, by simp only; omega, h4, by simp only; omega⟩
  split
  · refine ⟨h1, h2, by simp; omega, ?_, by simp only; omega⟩
    intro l hl
    simp only [List.mem_append, List.mem_singleton] at hl
    rcases hl with hl | rfl
    · exact h4 l hl
    · exact ⟨bytesOf_length _ _, bytesOf_in fun j _ => getV_in255 h2 j⟩
  split
  · exact ⟨h1, h2, by simp only; omega, h4, by simp; omega⟩
  split
  · exact ⟨h1.inter _, h2, by simp only; omega, h4, by simp only; omega⟩
  split
  · exact ⟨.inr (by simp only; omega), h2, by simp only; omega, h4, by simp only; omega⟩
  · exact ⟨h1, h2, by simp only; omega, h4, by simp only; omega⟩
theorem runF_okay {a b c d : Int} {k : Nat} {f : Nat → Int} (hab : a ≤ c ∧ b ≤ d) (hf : ∀ i, 0 ≤ f i ∧ f i ≤ 255) (ss : List Stp) (j : Nat) (hj : j ≤ ss.length) : Okay a b c d k j (runF a b c d k f (ss.take j)) := by
  induction j with
  | zero =>
    show Okay a b c d k 0 ((a, b, c, d), f, [], [], true)
    exact ⟨.inr (by simp only; omega), hf, by simp, by simp, by simp⟩
  | succ j ih =>
    have hs : ss[j]? = some ss[j] := List.getElem?_eq_getElem (by omega)
    rw [runF_snoc a b c d k f hs]
    exact (ih (by omega)).step hab _
theorem putV_whole (a b c d : Int) (k : Nat) (f : Nat → Int) (x y : Int) (ns : List Int) : putV a b c k (a, b, c, d) f x y ns = wr a b c d k f x y ns := by
  unfold putV wr
  by_cases h : Inn a b c d x y
  · rw [if_pos h, if_pos (show InB (a, b, c, d) x y from h)]; rfl
  · rw [if_neg h, if_neg (show ¬ InB (a, b, c, d) x y from h)]
end Go.Proofs.Ytnbplionaojabaa

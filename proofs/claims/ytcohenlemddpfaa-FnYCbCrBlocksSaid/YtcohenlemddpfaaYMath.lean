/-
  Plain words for images with luma and chroma samples: spans by the ratio, how many samples there are across, where a sample is. No program in sight.
-/
import Derived.Test.YtcohenlemddpfaaSpec
namespace Go.Proofs.Ytcohenlemddpfaa
open Go.RowKit
set_option linter.unusedVariables false

/-- How many pixels a chroma sample spans across. -/
def hsp (r : Int) : Int := if r = 1 ∨ r = 2 then 2 else if r = 4 ∨ r = 5 then 4 else 1
/-- .. and down. -/
def vsp (r : Int) : Int := if r = 2 ∨ r = 3 ∨ r = 5 then 2 else 1
/-- How many samples with a span there are from lo to ahead of hi. -/
def acr (lo hi s : Int) : Int := (hi + s - 1) / s - lo / s

/-- The statements' 'plain': fine, with points, coordinates of at least 0, and a ratio. -/
def PlainY (a b c d r : Int) : Prop := Fine a b c d ∧ (0 ≤ a ∧ 0 ≤ b) ∧ (a < c ∧ b < d) ∧ (0 ≤ r ∧ r ≤ 5)
instance (a b c d : Int) : Decidable (Fine a b c d) := by unfold Fine; exact inferInstance
instance (a b c d r : Int) : Decidable (PlainY a b c d r) := by unfold PlainY; exact inferInstance

theorem six {r : Int} (h0 : 0 ≤ r) (h5 : r ≤ 5) : r = 0 ∨ r = 1 ∨ r = 2 ∨ r = 3 ∨ r = 4 ∨ r = 5 := by omega
theorem hsp_or (r : Int) : hsp r = 1 ∨ hsp r = 2 ∨ hsp r = 4 := by
  unfold hsp
  split
  · simp
  · split <;> simp
theorem vsp_or (r : Int) : vsp r = 1 ∨ vsp r = 2 := by unfold vsp; split <;> simp

theorem acr_in {lo hi s : Int} (hs : s = 1 ∨ s = 2 ∨ s = 4) (h0 : 0 ≤ lo) (h1 : lo < hi) (h2 : hi ≤ lo + 1000) : 1 ≤ acr lo hi s ∧ acr lo hi s ≤ 1000 := by
  unfold acr
  rcases hs with rfl | rfl | rfl <;> omega
theorem pos_in {lo hi s x : Int} (hs : s = 1 ∨ s = 2 ∨ s = 4) (h0 : 0 ≤ lo) (h1 : lo ≤ x) (h2 : x < hi) : 0 ≤ x / s - lo / s ∧ x / s - lo / s < acr lo hi s := by
  unfold acr
  rcases hs with rfl | rfl | rfl <;> omega

/-- A place in a row of rows. -/
theorem grid_in {p q P Q : Int} (h1 : 0 ≤ p) (h2 : p < P) (h3 : 0 ≤ q) (h4 : q < Q) : 0 ≤ p * Q + q ∧ p * Q + q < P * Q := by
  have e1 : 0 ≤ p * Q := Int.mul_nonneg h1 (by omega)
  have e2 : (p + 1) * Q ≤ P * Q := Int.mul_le_mul_of_nonneg_right (by omega) (by omega)
  rw [Int.add_mul, Int.one_mul] at e2
  omega
theorem grid_same {p q p' q' Q : Int} (h3 : 0 ≤ q) (h4 : q < Q) (h5 : 0 ≤ q') (h6 : q' < Q) : p * Q + q = p' * Q + q' ↔ p = p' ∧ q = q' := by
  constructor
  · intro h
    have step : ∀ x y : Int, x < y → x * Q + Q ≤ y * Q := by
      intro x y hxy
      have e : (x + 1) * Q ≤ y * Q := Int.mul_le_mul_of_nonneg_right (by omega) (by omega)
      rwa [Int.add_mul, Int.one_mul] at e
    rcases Int.lt_trichotomy p p' with h1 | h1 | h1
    · have := step _ _ h1; omega
    · subst h1; exact ⟨rfl, by omega⟩
    · have := step _ _ h1; omega
  · rintro ⟨rfl, rfl⟩; rfl

/-- How many luma, how many chroma samples. -/
def nY (a b c d : Int) : Nat := ((c - a) * (d - b)).toNat
def nC (a b c d r : Int) : Nat := (acr a c (hsp r) * acr b d (vsp r)).toNat
/-- Where the samples of a pixel are. -/
def yAt (a b c x y : Int) : Nat := ((y - b) * (c - a) + (x - a)).toNat
def cAt (a b c r x y : Int) : Nat := ((y / vsp r - b / vsp r) * acr a c (hsp r) + (x / hsp r - a / hsp r)).toNat

section
variable {a b c d r x y : Int}
theorem PlainY.cw (h : PlainY a b c d r) : 1 ≤ acr a c (hsp r) ∧ acr a c (hsp r) ≤ 1000 := by
  obtain ⟨⟨_, _, _, ⟨h1, h2⟩⟩, ⟨h3, h4⟩, ⟨h5, h6⟩, _⟩ := h
  exact acr_in (hsp_or r) h3 h5 (by omega)
theorem PlainY.ch (h : PlainY a b c d r) : 1 ≤ acr b d (vsp r) ∧ acr b d (vsp r) ≤ 1000 := by
  obtain ⟨⟨_, _, _, ⟨h1, h2⟩⟩, ⟨h3, h4⟩, ⟨h5, h6⟩, _⟩ := h
  exact acr_in (by rcases vsp_or r with h | h <;> simp [h]) h4 h6 (by omega)
theorem PlainY.nY_eq (h : PlainY a b c d r) : (nY a b c d : Int) = (c - a) * (d - b) ∧ nY a b c d ≤ 1000000 := by
  have := area_in h.1
  unfold nY
  omega
theorem PlainY.nC_eq (h : PlainY a b c d r) : (nC a b c d r : Int) = acr a c (hsp r) * acr b d (vsp r) ∧ nC a b c d r ≤ 1000000 := by
  have h1 := h.cw
  have h2 := h.ch
  have e1 : 0 ≤ acr a c (hsp r) * acr b d (vsp r) := Int.mul_nonneg (by omega) (by omega)
  have e2 : acr a c (hsp r) * acr b d (vsp r) ≤ 1000 * 1000 := Int.mul_le_mul (by omega) (by omega) (by omega) (by omega)
  unfold nC
  omega
theorem PlainY.yAt_eq (h : PlainY a b c d r) (hin : Inn a b c d x y) : (y - b) * (c - a) + (x - a) = (yAt a b c x y : Int) ∧ yAt a b c x y < nY a b c d := by
  have hn := h.nY_eq.1
  obtain ⟨i1, i2, i3, i4⟩ := hin
  have g := grid_in (p := y - b) (q := x - a) (P := d - b) (Q := c - a) (by omega) (by omega) (by omega) (by omega)
  rw [Int.mul_comm (d - b) (c - a)] at g
  unfold yAt
  omega
theorem PlainY.cAt_eq (h : PlainY a b c d r) (hin : Inn a b c d x y) : (y / vsp r - b / vsp r) * acr a c (hsp r) + (x / hsp r - a / hsp r) = (cAt a b c r x y : Int) ∧ cAt a b c r x y < nC a b c d r := by
  have hn := h.nC_eq.1
  obtain ⟨_, ⟨h3, h4⟩, _, _⟩ := h
  obtain ⟨i1, i2, i3, i4⟩ := hin
  have px := pos_in (s := hsp r) (lo := a) (hi := c) (x := x) (hsp_or r) h3 i1 i2
  have py := pos_in (s := vsp r) (lo := b) (hi := d) (x := y) (by rcases vsp_or r with h | h <;> simp [h]) h4 i3 i4
  have g := grid_in py.1 py.2 px.1 px.2
  rw [Int.mul_comm (acr b d (vsp r))] at g
  unfold cAt
  omega
end
end Go.Proofs.Ytcohenlemddpfaa

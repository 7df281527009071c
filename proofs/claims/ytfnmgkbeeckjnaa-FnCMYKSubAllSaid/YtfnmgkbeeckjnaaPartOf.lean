/-
  Plain words for a part of an image: which bytes it has, and where a point's bytes are. No program in sight.
-/
import Derived.Test.YtfnmgkbeeckjnaaRead
import Derived.Test.YtfnmgkbeeckjnaaPutF
import Derived.Test.YtfnmgkbeeckjnaaInter
namespace Go.Proofs.Ytfnmgkbeeckjnaa
open Go.RowKit
set_option linter.unusedVariables false

/-- Where a point's bytes begin in a part that begins at A, B. -/
theorem at_part {a b c d A B x y : Int} {k i j : Nat} (hk1 : 1 ≤ k) (hk : k ≤ 4) (hf : Fine a b c d) (h1 : Inn a b c d A B) (h2 : Inn a b c d x y) (hx : A ≤ x) (hy : B ≤ y)
    (hi : (B - b) * sd a c k + (A - a) * k = (i : Int)) (hj : (y - b) * sd a c k + (x - a) * k = (j : Int)) : (y - B) * sd a c k + (x - A) * k = ((j - i : Nat) : Int) ∧ i ≤ j := by
  have hsd := sd_in hk hf
  have e1 : (y - b) * sd a c k = (y - B) * sd a c k + (B - b) * sd a c k := by rw [← Int.add_mul]; congr 1; omega
  have e2 : (x - a) * (k : Int) = (x - A) * k + (A - a) * k := by rw [← Int.add_mul]; congr 1; omega
  have m1 : 0 ≤ (y - B) * sd a c k := Int.mul_nonneg (by omega) hsd.1
  have m2 : 0 ≤ (x - A) * (k : Int) := Int.mul_nonneg (by omega) (by omega)
  omega

/-- The numbers of a pixel. -/
def pxs (a b c d : Int) (k : Nat) (zs : List Int) (x y : Int) : List Int := bytesOf k (px a b c d k zs x y)

theorem take_bytes {n j k : Nat} {f : Nat → Int} (h : j + k ≤ n) : ((bytesOf n f).drop j).take k = bytesOf k fun m => f (j + m) := by
  apply List.ext_getElem?
  intro m
  by_cases hm : m < k
  · rw [List.getElem?_take_of_lt hm, List.getElem?_drop, bytesOf_at (by omega), bytesOf_at hm]
  · rw [List.getElem?_eq_none (by simp [bytesOf_length]; omega), List.getElem?_eq_none (by rw [bytesOf_length]; omega)]

/-- The bytes of a part. -/
theorem part_of {a b c d a' b' c' d' : Int} {k : Nat} {zs : List Int} (hk1 : 1 ≤ k) (hk : k ≤ 4) (hf : Fine a b c d) (hm : Meet a b c d a' b' c' d') :
    ∃ (i : Nat) (L : List Int), ((max b b' - b) * sd a c k + (max a a' - a) * k = (i : Int) ∧ i < total a b c d k ∧ L = bytesOf (total a b c d k - i) fun j => byteAt zs (i + j)) ∧ L.length ≤ 4000000 ∧ (∀ n ∈ L, -9223372036854775808 ≤ n ∧ n ≤ 9223372036854775807) ∧
      ∀ x y, Inn a b c d x y → max a a' ≤ x → max b b' ≤ y → ∃ j : Nat, (y - max b b') * sd a c k + (x - max a a') * k = (j : Int) ∧ j + k ≤ L.length ∧ (L.drop j).take k = pxs a b c d k zs x y := by
  have htl := total_le hk hf
  obtain ⟨m1, m2⟩ := hm
  have hin : Inn a b c d (max a a') (max b b') := by obtain ⟨_, _, ⟨f5, f6⟩, ⟨f7, f8⟩⟩ := hf; unfold Inn; omega
  obtain ⟨i, hi, hil⟩ := inside_at hf hk hin
  refine ⟨i, _, ⟨hi, by omega, rfl⟩, by rw [bytesOf_length]; omega, bytesOf_in fun j _ => by have := byteAt_in zs (i + j); omega, ?_⟩
  intro x y hxy hx hy
  obtain ⟨j, hj, hjl⟩ := inside_at hf hk hxy
  obtain ⟨e1, e2⟩ := at_part hk1 hk hf hin hxy hx hy hi hj
  refine ⟨j - i, e1, by rw [bytesOf_length]; omega, ?_⟩
  rw [take_bytes (by omega)]
  unfold pxs
  congr 1
  funext m
  rw [px_in hxy hj]
  congr 1
  omega
end Go.Proofs.Ytfnmgkbeeckjnaa

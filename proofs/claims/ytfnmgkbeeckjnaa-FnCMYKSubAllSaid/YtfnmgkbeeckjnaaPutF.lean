/-
  Plain words for writes of one pixel: bytes put into a row, by offset and by point. No program in sight.
-/
import Derived.Test.YtfnmgkbeeckjnaaSpec
namespace Go.Proofs.Ytfnmgkbeeckjnaa
open Go.RowKit
set_option linter.unusedVariables false

/-- The numbers ns put at place p. -/
def putF (f : Nat → Int) (p : Nat) (ns : List Int) (i : Nat) : Int := if p ≤ i ∧ i < p + ns.length then ns.getD (i - p) 0 else f i
/-- The numbers ns put at the point x, y of an image, if it has it. -/
def wr (a b c d : Int) (k : Nat) (f : Nat → Int) (x y : Int) (ns : List Int) : Nat → Int := if Inn a b c d x y then putF f ((y - b) * sd a c k + (x - a) * k).toNat ns else f

theorem wr_in {a b c d x y : Int} {k : Nat} {f : Nat → Int} {ns : List Int} {i : Nat} (h : Inn a b c d x y) (hi : (y - b) * sd a c k + (x - a) * k = (i : Int)) : wr a b c d k f x y ns = putF f i ns := by
  unfold wr
  rw [if_pos h, hi]
  rfl
theorem wr_out {a b c d x y : Int} {k : Nat} {f : Nat → Int} {ns : List Int} (h : ¬ Inn a b c d x y) : wr a b c d k f x y ns = f := by
  unfold wr
  rw [if_neg h]
theorem getD_in {ns : List Int} (h : ∀ m ∈ ns, 0 ≤ m ∧ m ≤ 255) (j : Nat) : 0 ≤ ns.getD j 0 ∧ ns.getD j 0 ≤ 255 := by
  rw [List.getD_eq_getElem?_getD]
  cases hj : ns[j]? with
  | none => simp
  | some m => exact h m (List.mem_of_getElem? hj)
theorem putF_in255 {f : Nat → Int} {p : Nat} {ns : List Int} (hf : ∀ i, 0 ≤ f i ∧ f i ≤ 255) (hn : ∀ m ∈ ns, 0 ≤ m ∧ m ≤ 255) (i : Nat) : 0 ≤ putF f p ns i ∧ putF f p ns i ≤ 255 := by
  unfold putF
  split
  · exact getD_in hn _
  · exact hf i
theorem wr_in255 {a b c d x y : Int} {k : Nat} {f : Nat → Int} {ns : List Int} (hf : ∀ i, 0 ≤ f i ∧ f i ≤ 255) (hn : ∀ m ∈ ns, 0 ≤ m ∧ m ≤ 255) (i : Nat) : 0 ≤ wr a b c d k f x y ns i ∧ wr a b c d k f x y ns i ≤ 255 := by
  unfold wr
  split
  · exact putF_in255 hf hn i
  · exact hf i

theorem grown_of {w w' : World} {row : Option Nat} (hg : Grows w w') : w.grownBy w' row := ⟨hg.os, hg.tape, hg.output, hg.size, fun k hk _ => hg.block k hk⟩
theorem grown_step {a w w' : World} {row : Option Nat} (h : a.grownBy w row) (k : w.grownBy w' row) : a.grownBy w' row :=
  ⟨k.os.trans h.os, k.tape.trans h.tape, k.output.trans h.output, Nat.le_trans h.size k.size, fun i hi hne => (k.block i (Nat.lt_of_lt_of_le hi h.size) hne).trans (h.block i hi hne)⟩

theorem grown_cells {w w' : World} {g : Nat} (h : w.grownBy w' (some g)) : (∀ b o, b < w.heap.size → b ≠ g → w'.cell? ⟨b, o, none⟩ = w.cell? ⟨b, o, none⟩) ∧ (∀ b o, b < w.heap.size → b ≠ g → w'.frozen? ⟨b, o, none⟩ = w.frozen? ⟨b, o, none⟩) := by
  refine ⟨fun b o hb hne => World.cell?_of_block (h.block b hb (fun e => hne (by simpa using e))), fun b o hb hne => ?_⟩
  unfold World.frozen?
  rw [h.block b hb (fun e => hne (by simpa using e))]

/-- The bytes of an image read back: the list of bytes is the function on its range. -/
theorem byteAt_bytesOf {n : Nat} {f : Nat → Int} (hf : ∀ i, 0 ≤ f i ∧ f i ≤ 255) {i : Nat} (hi : i < n) : byteAt (bytesOf n f) i = f i := by
  unfold byteAt
  rw [List.getD_eq_getElem?_getD, bytesOf_at hi]
  simp
  have := hf i
  omega
theorem putF_congr {f g : Nat → Int} {p n : Nat} {ns : List Int} (h : ∀ i, i < n → f i = g i) : ∀ i, i < n → putF f p ns i = putF g p ns i := by
  intro i hi
  unfold putF
  split
  · rfl
  · exact h i hi
theorem wr_congr {a b c d x y : Int} {k n : Nat} {f g : Nat → Int} {ns : List Int} (h : ∀ i, i < n → f i = g i) : ∀ i, i < n → wr a b c d k f x y ns i = wr a b c d k g x y ns i := by
  intro i hi
  unfold wr
  split
  · exact putF_congr h i hi
  · exact h i hi
theorem putF_same {f : Nat → Int} {p : Nat} {ns ms : List Int} (h : ns.length = ms.length) : putF (putF f p ns) p ms = putF f p ms := by
  funext i
  unfold putF
  split
  · rfl
  · rename_i h1
    rw [if_neg (by omega)]
theorem putF_swap {f : Nat → Int} {p q : Nat} {ns ms : List Int} (h : p + ns.length ≤ q ∨ q + ms.length ≤ p) : putF (putF f p ns) q ms = putF (putF f q ms) p ns := by
  funext i
  unfold putF
  by_cases h1 : q ≤ i ∧ i < q + ms.length
  · rw [if_pos h1, if_neg (by omega), if_pos h1]
  · rw [if_neg h1, if_neg h1]
theorem putF_at {f : Nat → Int} {p j : Nat} {ns : List Int} (h : j < ns.length) : putF f p ns (p + j) = ns.getD j 0 := by
  unfold putF
  rw [if_pos (by omega)]
  congr 1
  omega
theorem putF_else {f : Nat → Int} {p i : Nat} {ns : List Int} (h : i < p ∨ p + ns.length ≤ i) : putF f p ns i = f i := by
  unfold putF
  rw [if_neg (by omega)]
/-- Bytes of two pixels lie apart. -/
theorem apart_at {a b c d x y u v : Int} {k i j : Nat} (hk : 1 ≤ k) (hk4 : k ≤ 4) (hf : Fine a b c d) (h1 : Inn a b c d x y) (h2 : Inn a b c d u v) (hi : (y - b) * sd a c k + (x - a) * k = (i : Int)) (hj : (v - b) * sd a c k + (u - a) * k = (j : Int)) (hne : ¬ (x = u ∧ y = v)) : i + k ≤ j ∨ j + k ≤ i := by
  have hsd := sd_in hk4 hf
  obtain ⟨_, _, ⟨f5, f6⟩, ⟨f7, f8⟩⟩ := hf
  obtain ⟨i1, i2, i3, i4⟩ := h1
  obtain ⟨j1, j2, j3, j4⟩ := h2
  have row : ∀ p : Int, a ≤ p → p < c → 0 ≤ (p - a) * (k : Int) ∧ (p - a) * (k : Int) + k ≤ sd a c k := by
    intro p h1 h2
    unfold sd
    have e1 : (p - a + 1) * (k : Int) ≤ (c - a) * (k : Int) := Int.mul_le_mul_of_nonneg_right (by omega) (by omega)
    rw [Int.add_mul, Int.one_mul] at e1
    exact ⟨Int.mul_nonneg (by omega) (by omega), e1⟩
  have step : ∀ p q : Int, p < q → p * sd a c k + sd a c k ≤ q * sd a c k := by
    intro p q h
    have e1 : (p + 1) * sd a c k ≤ q * sd a c k := Int.mul_le_mul_of_nonneg_right (by omega) hsd.1
    rw [Int.add_mul, Int.one_mul] at e1
    exact e1
  have rx := row x i1 i2
  have ru := row u j1 j2
  rcases Int.lt_trichotomy y v with h | h | h
  · have := step (y - b) (v - b) (by omega)
    left; omega
  · subst h
    rcases Int.lt_trichotomy x u with h | h | h
    · have e : (x - a + 1) * (k : Int) ≤ (u - a) * (k : Int) := Int.mul_le_mul_of_nonneg_right (by omega) (by omega)
      rw [Int.add_mul, Int.one_mul] at e
      left; omega
    · exact absurd ⟨h, rfl⟩ hne
    · have e : (u - a + 1) * (k : Int) ≤ (x - a) * (k : Int) := Int.mul_le_mul_of_nonneg_right (by omega) (by omega)
      rw [Int.add_mul, Int.one_mul] at e
      right; omega
  · have := step (v - b) (y - b) (by omega)
    right; omega

/-- Four ints in memory. -/
def BoxAt (w : World) (bx : Nat) (a b c d : Int) : Prop := w.cell? ⟨bx, 0, none⟩ = some (.int .i64 a) ∧ w.cell? ⟨bx, 1, none⟩ = some (.int .i64 b) ∧ w.cell? ⟨bx, 2, none⟩ = some (.int .i64 c) ∧ w.cell? ⟨bx, 3, none⟩ = some (.int .i64 d)
theorem BoxAt.grows {w w' : World} {bx : Nat} {a b c d : Int} (h : BoxAt w bx a b c d) (hg : Grows w w') : BoxAt w' bx a b c d := ⟨hg.cell_some h.1, hg.cell_some h.2.1, hg.cell_some h.2.2.1, hg.cell_some h.2.2.2⟩
theorem BoxAt.lt {w : World} {bx : Nat} {a b c d : Int} (h : BoxAt w bx a b c d) : bx < w.heap.size := cell_lt h.1
end Go.Proofs.Ytfnmgkbeeckjnaa

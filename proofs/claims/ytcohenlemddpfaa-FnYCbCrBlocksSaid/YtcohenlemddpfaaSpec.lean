/-
  Contracts of the reference's low, filled, made and place. Conditions (the rectangle is fine, one to four bytes a pixel) stand in each theorem.
-/
import Derived.Test.YtcohenlemddpfaaPic
namespace Go.Proofs.Ytcohenlemddpfaa
open Go.RowKit
set_option linter.unusedVariables false

/-! ### Plain numbers -/
theorem tmod_or (n : Int) : (0 ≤ n ∧ n.tmod 256 = n % 256) ∨ (n < 0 ∧ n.tmod 256 = -((-n) % 256)) := by
  rcases Int.lt_or_le n 0 with h | h
  · refine .inr ⟨h, ?_⟩
    have h1 : n = -(-n) := by omega
    have h2 : (-(-n)).tmod 256 = -((-n).tmod 256) := Int.neg_tmod ..
    rw [← h1] at h2
    rw [h2, Int.tmod_eq_emod_of_nonneg (by omega)]
  · exact .inl ⟨h, Int.tmod_eq_emod_of_nonneg h⟩

theorem low_eq (n : Int) : (wrap64 (n.tmod 256 + 256)).tmod 256 = n % 256 := by
  have h := tmod_or n
  have e : wrap64 (n.tmod 256 + 256) = n.tmod 256 + 256 := by
    unfold wrap64
    rcases h with ⟨_, h⟩ | ⟨_, h⟩ <;> rw [h] <;> omega
  rw [e, Int.tmod_eq_emod_of_nonneg (by rcases h with ⟨_, h⟩ | ⟨_, h⟩ <;> rw [h] <;> omega)]
  rcases h with ⟨_, h⟩ | ⟨_, h⟩ <;> rw [h] <;> omega

theorem mod256 (n : Int) : 0 ≤ n % 256 ∧ n % 256 < 256 := by omega

/-- The number of a list at a place, modulo 256; 0 behind its end. -/
def byteAt (zs : List Int) (i : Nat) : Int := zs.getD i 0 % 256
theorem byteAt_in (zs : List Int) (i : Nat) : 0 ≤ byteAt zs i ∧ byteAt zs i ≤ 255 := by unfold byteAt; omega

/-- n bytes. -/
def bytesOf (n : Nat) (f : Nat → Int) : List Int := (List.range n).map f
theorem bytesOf_length (n : Nat) (f : Nat → Int) : (bytesOf n f).length = n := by simp [bytesOf]
theorem bytesOf_get {n : Nat} {f : Nat → Int} {j : Nat} {m : Int} (h : (bytesOf n f)[j]? = some m) : j < n ∧ f j = m := by
  have hj : j < n := by have := (List.getElem?_eq_some_iff.1 h).1; rwa [bytesOf_length] at this
  refine ⟨hj, ?_⟩
  simpa [bytesOf, hj] using h
theorem bytesOf_at {n : Nat} {f : Nat → Int} {j : Nat} (h : j < n) : (bytesOf n f)[j]? = some (f j) := by simp [bytesOf, h]
theorem bytesOf_congr {n : Nat} {f g : Nat → Int} (h : ∀ i, i < n → f i = g i) : bytesOf n f = bytesOf n g := by
  unfold bytesOf
  exact List.map_congr_left fun i hi => h i (by simpa using hi)
theorem bytesOf_in {n : Nat} {f : Nat → Int} {lo hi : Int} (h : ∀ i, i < n → lo ≤ f i ∧ f i ≤ hi) : ∀ m ∈ bytesOf n f, lo ≤ m ∧ m ≤ hi := by
  intro m hm
  unfold bytesOf at hm
  rw [List.mem_map] at hm
  obtain ⟨i, hi', rfl⟩ := hm
  exact h i (by simpa using hi')

/-- How many bytes an image has. -/
def total (a b c d : Int) (k : Nat) : Nat := ((c - a) * (d - b) * k).toNat
theorem area_in {a b c d : Int} (h : Fine a b c d) : 0 ≤ (c - a) * (d - b) ∧ (c - a) * (d - b) ≤ 1000000 := by
  obtain ⟨_, _, ⟨h1, h2⟩, ⟨h3, h4⟩⟩ := h
  have e1 : 0 ≤ (c - a) * (d - b) := Int.mul_nonneg (by omega) (by omega)
  have e2 : (c - a) * (d - b) ≤ 1000 * 1000 := Int.mul_le_mul (by omega) (by omega) (by omega) (by omega)
  omega
theorem total_eq {a b c d : Int} (k : Nat) (h : Fine a b c d) : (c - a) * (d - b) * (k : Int) = (total a b c d k : Int) := by
  have h1 := area_in h
  have : 0 ≤ (c - a) * (d - b) * (k : Int) := Int.mul_nonneg h1.1 (by omega)
  unfold total
  omega
theorem total_le {a b c d : Int} {k : Nat} (hk : k ≤ 4) (h : Fine a b c d) : total a b c d k ≤ 4000000 := by
  have h1 := area_in h
  have e := total_eq k h
  have e2 : (c - a) * (d - b) * (k : Int) ≤ 1000000 * 4 := Int.mul_le_mul (by omega) (by omega) (by omega) (by omega)
  omega

/-- The stride of a new image. -/
def sd (a c : Int) (k : Nat) : Int := (c - a) * k
theorem sd_in {a b c d : Int} {k : Nat} (hk : k ≤ 4) (h : Fine a b c d) : 0 ≤ sd a c k ∧ sd a c k ≤ 4000 := by
  obtain ⟨_, _, ⟨h1, h2⟩, ⟨h3, h4⟩⟩ := h
  unfold sd
  have e1 : 0 ≤ (c - a) * (k : Int) := Int.mul_nonneg (by omega) (by omega)
  have e2 : (c - a) * (k : Int) ≤ 1000 * 4 := Int.mul_le_mul (by omega) (by omega) (by omega) (by omega)
  omega

/-- Where the first byte of a pixel is: inside. -/
theorem inside_at {a b c d x y : Int} {k : Nat} (h : Fine a b c d) (hk : k ≤ 4) (hin : Inn a b c d x y) : ∃ i : Nat, (y - b) * sd a c k + (x - a) * k = (i : Int) ∧ i + k ≤ total a b c d k := by
  have ht := total_eq k h
  obtain ⟨_, _, ⟨h1, h2⟩, ⟨h3, h4⟩⟩ := h
  obtain ⟨i1, i2, i3, i4⟩ := hin
  unfold sd
  have p1 : 0 ≤ (c - a) * (k : Int) := Int.mul_nonneg (by omega) (by omega)
  have p2 : 0 ≤ (y - b) * ((c - a) * (k : Int)) := Int.mul_nonneg (by omega) p1
  have p3 : 0 ≤ (x - a) * (k : Int) := Int.mul_nonneg (by omega) (by omega)
  have e1 : (x - a + 1) * (k : Int) ≤ (c - a) * (k : Int) := Int.mul_le_mul_of_nonneg_right (by omega) (by omega)
  have e2 : (x - a + 1) * (k : Int) = (x - a) * (k : Int) + k := by rw [Int.add_mul, Int.one_mul]
  have e3 : (y - b + 1) * ((c - a) * (k : Int)) ≤ (d - b) * ((c - a) * (k : Int)) := Int.mul_le_mul_of_nonneg_right (by omega) p1
  have e4 : (y - b + 1) * ((c - a) * (k : Int)) = (y - b) * ((c - a) * (k : Int)) + (c - a) * (k : Int) := by rw [Int.add_mul, Int.one_mul]
  have e5 : (d - b) * ((c - a) * (k : Int)) = (c - a) * (d - b) * (k : Int) := by rw [← Int.mul_assoc, Int.mul_comm (d - b) (c - a)]
  refine ⟨((y - b) * ((c - a) * (k : Int)) + (x - a) * (k : Int)).toNat, by omega, by omega⟩

/-! ### Rows of ints -/
/-- Block g is a row of n ints, int i being f i. -/
def Ix (w : World) (g n : Nat) (f : Nat → Int) : Prop := w.rowIs g 3 n (fun i => .int .i64 (f i))
theorem Ix.congr {w : World} {g n : Nat} {f h : Nat → Int} (hx : Ix w g n f) (e : ∀ i, i < n → f i = h i) : Ix w g n h := World.rowIs.congr hx fun i hi => by rw [e i hi]
theorem Ix.lt {w : World} {g n : Nat} {f : Nat → Int} (h : Ix w g n f) : g < w.heap.size := World.rowIs.lt h
theorem Ix.grows {w w' : World} {g n : Nat} {f : Nat → Int} (h : Ix w g n f) (hg : Grows w w') : Ix w' g n f := World.rowIs.of_block h (hg.block g h.lt)
theorem Ix.cell {w : World} {g n : Nat} {f : Nat → Int} (h : Ix w g n f) {i : Nat} (hi : i < n) : w.cell? ⟨g, i, none⟩ = some (.int .i64 (f i)) := World.rowIs.cell h hi
theorem Ix.frozen {w : World} {g n : Nat} {f : Nat → Int} (h : Ix w g n f) (i : Nat) : w.frozen? ⟨g, i, none⟩ = false := World.rowIs.frozen h i
theorem Ix.set {w : World} {g n : Nat} {f : Nat → Int} (h : Ix w g n f) (i : Nat) (m : Int) : Ix (w.setCell ⟨g, i, none⟩ (.int .i64 m)) g n (fun j => if j = i then m else f j) := by
  refine World.rowIs.congr (World.rowIs.set h i (.int .i64 m)) fun j _ => ?_
  show (if j = i then Value.int .i64 m else .int .i64 (f j)) = .int .i64 (if j = i then m else f j)
  split <;> rfl
theorem Ix.rd {w : World} {g n : Nat} {f : Nat → Int} (h : Ix w g n f) (hn : n ≤ 17592186044416) (hf : ∀ i, i < n → -9223372036854775808 ≤ f i ∧ f i ≤ 9223372036854775807) : RdI w (.slice (some ⟨g, 0, none⟩) n n) (bytesOf n f) := by
  refine ⟨_, n, by rw [bytesOf_length], by rw [bytesOf_length]; omega, by omega, by rw [bytesOf_length]; omega, bytesOf_in hf, fun j m hj => ⟨g, 0, rfl, ?_⟩⟩
  obtain ⟨hj1, hj2⟩ := bytesOf_get hj
  rw [Nat.zero_add, h.cell hj1, hj2]

/-- The result is a slice over a new row of n ints. -/
def NewRow (n : Nat) (f : Nat → Int) (W : World) (e : Ending) (w' : World) : Prop := ∃ g, e = .returned (.slice (some ⟨g, 0, none⟩) n n) ∧ W.heap.size ≤ g ∧ Ix w' g n f ∧ Grows W w'

set_option maxHeartbeats 400000 in
theorem slow_any (n : Int) (w : World) : Calls Try.prog 44 #[.int .i64 n] w fun e w' => e = .returned (.int .i64 (n % 256)) ∧ w = w' := by
  have HL := Lib.hid (low_eq n)
  go_enter Try.func44, Try.ntmps44
  go_wp2
  go_ret
  exact ⟨ret_int HL.out, rfl⟩
theorem slow_g (n : Int) (w : World) : Calls Try.prog 44 #[.int .i64 n] w fun e w' => e = .returned (.int .i64 (n % 256)) ∧ Grows w w' :=
  (slow_any n w).mono fun _ _ ⟨he, hw⟩ => ⟨he, hw ▸ Grows.rfl' _⟩

set_option maxHeartbeats 400000 in
theorem low_any (n : Int) (w : World) : Calls Try.prog 26 #[.int .i64 n] w fun e w' => e = .returned (.int .i64 (n % 256)) ∧ w = w' := by
  have HL := Lib.hid (low_eq n)
  go_enter Try.func26, Try.ntmps26
  go_wp2
  go_ret
  exact ⟨ret_int HL.out, rfl⟩
theorem low_g (n : Int) (w : World) : Calls Try.prog 26 #[.int .i64 n] w fun e w' => e = .returned (.int .i64 (n % 256)) ∧ Grows w w' :=
  (low_any n w).mono fun _ _ ⟨he, hw⟩ => ⟨he, hw ▸ Grows.rfl' _⟩


end Go.Proofs.Ytcohenlemddpfaa

/-
  Contracts of the functions on rectangles: conversions, fine, has, Dx, Dy, the length of a pixel buffer, whether a point is inside. Conditions (bounds on coordinates) stand in each theorem.
-/
import Derived.Test.YtcohenlemddpfaaRows
import Derived.Test.YtcohenlemddpfaaBase
namespace Go.Proofs.Ytcohenlemddpfaa
open Go.RowKit
set_option linter.unusedVariables false

/-! ### Plain words -/
/-- The statements' 'fine': well-formed, sides of at most 1000, coordinates of at most 2^62 in size. -/
def Fine (a b c d : Int) : Prop := (-4611686018427387904 ≤ a ∧ c ≤ 4611686018427387904) ∧ (-4611686018427387904 ≤ b ∧ d ≤ 4611686018427387904) ∧ (a ≤ c ∧ b ≤ d) ∧ (c ≤ a + 1000 ∧ d ≤ b + 1000)
/-- The point is in the rectangle. -/
def Inn (a b c d x y : Int) : Prop := a ≤ x ∧ x < c ∧ b ≤ y ∧ y < d
instance (a b c d x y : Int) : Decidable (Inn a b c d x y) := by unfold Inn; exact inferInstance
/-- The number fits an int. -/
def I64 (n : Int) : Prop := -9223372036854775808 ≤ n ∧ n ≤ 9223372036854775807

/-- A rectangle of the thin package, of the statements, or of the library: four ints. -/
abbrev box4 (a b c d : Int) : Value := .agg #[.int .i64 a, .int .i64 b, .int .i64 c, .int .i64 d]

/-! ### Conversions -/
set_option maxHeartbeats 400000 in
theorem asRect_any (a b c d : Int) (w : World) : Calls Try.prog 8 #[box4 a b c d] w fun e w' => e = .returned (box4 a b c d) ∧ Grows w w' := by
  go_enter Try.func8, Try.ntmps8
  go_wp2
  exact bodyPost_ret (v := box4 a b c d) (by simp [results, Try.results8, go_sem]) rfl ⟨rfl, ((Grows.rfl' _).alloc' _).alloc' _⟩

set_option maxHeartbeats 400000 in
theorem rectangle_any (a b c d : Int) (w : World) : Calls Try.prog 28 #[box4 a b c d] w fun e w' => e = .returned (box4 a b c d) ∧ Grows w w' := by
  go_enter Try.func28, Try.ntmps28
  go_wp2
  exact bodyPost_ret (v := box4 a b c d) (by simp [results, Try.results28, go_sem]) rfl ⟨rfl, ((Grows.rfl' _).alloc' _).alloc' _⟩

set_option maxHeartbeats 400000 in
theorem plain_any (a b c d : Int) (w : World) : Calls Try.prog 41 #[box4 a b c d] w fun e w' => e = .returned (box4 a b c d) ∧ Grows w w' := by
  go_enter Try.func41, Try.ntmps41
  go_wp2
  exact bodyPost_ret (v := box4 a b c d) (by simp [results, Try.results41, go_sem]) rfl ⟨rfl, ((Grows.rfl' _).alloc' _).alloc' _⟩

/-! ### fine, has -/
set_option maxHeartbeats 1000000 in
theorem fine_yes (a b c d : Int) (w : World) (h : Fine a b c d) : Calls Try.prog 20 #[box4 a b c d] w fun e w' => e = .returned (.bool true) ∧ Grows w w' := by
  obtain ⟨⟨h1, h2⟩, ⟨h3, h4⟩, ⟨h5, h6⟩, ⟨h7, h8⟩⟩ := h
  (try first | (have t1 : decide (a < -4611686018427387904) = true := by simp; omega) | (have t1 : decide (a < -4611686018427387904) = false := by simp; omega))
  (try first | (have t2 : decide (4611686018427387904 < c) = true := by simp; omega) | (have t2 : decide (4611686018427387904 < c) = false := by simp; omega))
  (try first | (have t3 : decide (b < -4611686018427387904) = true := by simp; omega) | (have t3 : decide (b < -4611686018427387904) = false := by simp; omega))
  (try first | (have t4 : decide (4611686018427387904 < d) = true := by simp; omega) | (have t4 : decide (4611686018427387904 < d) = false := by simp; omega))
  (try first | (have t5 : decide (c < a) = true := by simp; omega) | (have t5 : decide (c < a) = false := by simp; omega))
  (try first | (have t6 : decide (d < b) = true := by simp; omega) | (have t6 : decide (d < b) = false := by simp; omega))
  (try first | (have t7 : decide (c ≤ a + 1000) = true := by simp; omega) | (have t7 : decide (c ≤ a + 1000) = false := by simp; omega))
  (try first | (have t8 : decide (d ≤ b + 1000) = true := by simp; omega) | (have t8 : decide (d ≤ b + 1000) = false := by simp; omega))
  go_enter Try.func20, Try.ntmps20
  go_wp2
  go_ret
  exact ⟨by first | rfl | exact ret_bool (by simp; omega), (Grows.rfl' _).alloc' _⟩

set_option maxHeartbeats 4000000 in
theorem fine_no (a b c d : Int) (w : World) (h : ¬ Fine a b c d) (ha : I64 a) (hb : I64 b) : Calls Try.prog 20 #[box4 a b c d] w fun e w' => e = .returned (.bool false) ∧ Grows w w' := by
  unfold I64 at ha hb
  have hcase : a < -4611686018427387904 ∨ (-4611686018427387904 ≤ a ∧ 4611686018427387904 < c) ∨ (-4611686018427387904 ≤ a ∧ c ≤ 4611686018427387904 ∧ b < -4611686018427387904) ∨
      (-4611686018427387904 ≤ a ∧ c ≤ 4611686018427387904 ∧ -4611686018427387904 ≤ b ∧ 4611686018427387904 < d) ∨ (-4611686018427387904 ≤ a ∧ c ≤ 4611686018427387904 ∧ -4611686018427387904 ≤ b ∧ d ≤ 4611686018427387904 ∧ c < a) ∨
      (-4611686018427387904 ≤ a ∧ c ≤ 4611686018427387904 ∧ -4611686018427387904 ≤ b ∧ d ≤ 4611686018427387904 ∧ a ≤ c ∧ d < b) ∨
      (-4611686018427387904 ≤ a ∧ c ≤ 4611686018427387904 ∧ -4611686018427387904 ≤ b ∧ d ≤ 4611686018427387904 ∧ a ≤ c ∧ b ≤ d ∧ a + 1000 < c) ∨
      (-4611686018427387904 ≤ a ∧ c ≤ 4611686018427387904 ∧ -4611686018427387904 ≤ b ∧ d ≤ 4611686018427387904 ∧ a ≤ c ∧ b ≤ d ∧ c ≤ a + 1000 ∧ b + 1000 < d) := by
    unfold Fine at h
    omega
  clear h
  rcases hcase with h1 | ⟨h1, h2⟩ | ⟨h1, h2, h3⟩ | ⟨h1, h2, h3, h4⟩ | ⟨h1, h2, h3, h4, h5⟩ | ⟨h1, h2, h3, h4, h5, h6⟩ | ⟨h1, h2, h3, h4, h5, h6, h7⟩ | ⟨h1, h2, h3, h4, h5, h6, h7, h8⟩
  all_goals
    (try first | (have t1 : decide (a < -4611686018427387904) = true := by simp; omega) | (have t1 : decide (a < -4611686018427387904) = false := by simp; omega))
    (try first | (have t2 : decide (4611686018427387904 < c) = true := by simp; omega) | (have t2 : decide (4611686018427387904 < c) = false := by simp; omega))
    (try first | (have t3 : decide (b < -4611686018427387904) = true := by simp; omega) | (have t3 : decide (b < -4611686018427387904) = false := by simp; omega))
    (try first | (have t4 : decide (4611686018427387904 < d) = true := by simp; omega) | (have t4 : decide (4611686018427387904 < d) = false := by simp; omega))
    (try first | (have t5 : decide (c < a) = true := by simp; omega) | (have t5 : decide (c < a) = false := by simp; omega))
    (try first | (have t6 : decide (d < b) = true := by simp; omega) | (have t6 : decide (d < b) = false := by simp; omega))
    (try first | (have t7 : decide (c ≤ a + 1000) = true := by simp; omega) | (have t7 : decide (c ≤ a + 1000) = false := by simp; omega))
    (try first | (have t8 : decide (d ≤ b + 1000) = true := by simp; omega) | (have t8 : decide (d ≤ b + 1000) = false := by simp; omega))
    go_enter Try.func20, Try.ntmps20
    go_wp2
    go_ret
    exact ⟨by first | rfl | exact ret_bool (by simp; omega), (Grows.rfl' _).alloc' _⟩

theorem inn_cases (a b c d x y : Int) (h : ¬ Inn a b c d x y) : x < a ∨ (a ≤ x ∧ c ≤ x) ∨ (a ≤ x ∧ x < c ∧ y < b) ∨ (a ≤ x ∧ x < c ∧ b ≤ y ∧ d ≤ y) := by
  unfold Inn at h
  omega

set_option maxHeartbeats 1000000 in
theorem has_yes (a b c d x y : Int) (w : World) (h : Inn a b c d x y) : Calls Try.prog 10 #[box4 a b c d, .int .i64 x, .int .i64 y] w fun e w' => e = .returned (.bool true) ∧ Grows w w' := by
  obtain ⟨h1, h2, h3, h4⟩ := h
  (try first | (have t1 : decide (a ≤ x) = true := by simp; omega) | (have t1 : decide (a ≤ x) = false := by simp; omega))
  (try first | (have t2 : decide (x < c) = true := by simp; omega) | (have t2 : decide (x < c) = false := by simp; omega))
  (try first | (have t3 : decide (b ≤ y) = true := by simp; omega) | (have t3 : decide (b ≤ y) = false := by simp; omega))
  (try first | (have t4 : decide (y < d) = true := by simp; omega) | (have t4 : decide (y < d) = false := by simp; omega))
  go_enter Try.func10, Try.ntmps10
  go_wp2
  go_ret
  exact ⟨by first | rfl | exact ret_bool (by simp; omega), (Grows.rfl' _).alloc' _⟩

set_option maxHeartbeats 1000000 in
theorem has_no (a b c d x y : Int) (w : World) (h : ¬ Inn a b c d x y) : Calls Try.prog 10 #[box4 a b c d, .int .i64 x, .int .i64 y] w fun e w' => e = .returned (.bool false) ∧ Grows w w' := by
  have hcase := inn_cases a b c d x y h
  clear h
  rcases hcase with h1 | ⟨h1, h2⟩ | ⟨h1, h2, h3⟩ | ⟨h1, h2, h3, h4⟩
  all_goals
    (try first | (have t1 : decide (a ≤ x) = true := by simp; omega) | (have t1 : decide (a ≤ x) = false := by simp; omega))
    (try first | (have t2 : decide (x < c) = true := by simp; omega) | (have t2 : decide (x < c) = false := by simp; omega))
    (try first | (have t3 : decide (b ≤ y) = true := by simp; omega) | (have t3 : decide (b ≤ y) = false := by simp; omega))
    (try first | (have t4 : decide (y < d) = true := by simp; omega) | (have t4 : decide (y < d) = false := by simp; omega))
    go_enter Try.func10, Try.ntmps10
    go_wp2
    go_ret
    exact ⟨by first | rfl | exact ret_bool (by simp; omega), (Grows.rfl' _).alloc' _⟩

set_option maxHeartbeats 1000000 in
theorem specHas_yes (a b c d x y : Int) (w : World) (h : Inn a b c d x y) : Calls Try.prog 30 #[box4 a b c d, .int .i64 x, .int .i64 y] w fun e w' => e = .returned (.bool true) ∧ Grows w w' := by
  obtain ⟨h1, h2, h3, h4⟩ := h
  (try first | (have t1 : decide (a ≤ x) = true := by simp; omega) | (have t1 : decide (a ≤ x) = false := by simp; omega))
  (try first | (have t2 : decide (x < c) = true := by simp; omega) | (have t2 : decide (x < c) = false := by simp; omega))
  (try first | (have t3 : decide (b ≤ y) = true := by simp; omega) | (have t3 : decide (b ≤ y) = false := by simp; omega))
  (try first | (have t4 : decide (y < d) = true := by simp; omega) | (have t4 : decide (y < d) = false := by simp; omega))
  go_enter Try.func30, Try.ntmps30
  go_wp2
  go_ret
  exact ⟨by first | rfl | exact ret_bool (by simp; omega), (Grows.rfl' _).alloc' _⟩

set_option maxHeartbeats 1000000 in
theorem specHas_no (a b c d x y : Int) (w : World) (h : ¬ Inn a b c d x y) : Calls Try.prog 30 #[box4 a b c d, .int .i64 x, .int .i64 y] w fun e w' => e = .returned (.bool false) ∧ Grows w w' := by
  have hcase := inn_cases a b c d x y h
  clear h
  rcases hcase with h1 | ⟨h1, h2⟩ | ⟨h1, h2, h3⟩ | ⟨h1, h2, h3, h4⟩
  all_goals
    (try first | (have t1 : decide (a ≤ x) = true := by simp; omega) | (have t1 : decide (a ≤ x) = false := by simp; omega))
    (try first | (have t2 : decide (x < c) = true := by simp; omega) | (have t2 : decide (x < c) = false := by simp; omega))
    (try first | (have t3 : decide (b ≤ y) = true := by simp; omega) | (have t3 : decide (b ≤ y) = false := by simp; omega))
    (try first | (have t4 : decide (y < d) = true := by simp; omega) | (have t4 : decide (y < d) = false := by simp; omega))
    go_enter Try.func30, Try.ntmps30
    go_wp2
    go_ret
    exact ⟨by first | rfl | exact ret_bool (by simp; omega), (Grows.rfl' _).alloc' _⟩

set_option maxHeartbeats 1000000 in
theorem in_yes (a b c d x y : Int) (w : World) (h : Inn a b c d x y) : Calls Try.prog 37 #[.agg #[.int .i64 x, .int .i64 y], box4 a b c d] w fun e w' => e = .returned (.bool true) ∧ Grows w w' := by
  obtain ⟨h1, h2, h3, h4⟩ := h
  (try first | (have t1 : decide (a ≤ x) = true := by simp; omega) | (have t1 : decide (a ≤ x) = false := by simp; omega))
  (try first | (have t2 : decide (x < c) = true := by simp; omega) | (have t2 : decide (x < c) = false := by simp; omega))
  (try first | (have t3 : decide (b ≤ y) = true := by simp; omega) | (have t3 : decide (b ≤ y) = false := by simp; omega))
  (try first | (have t4 : decide (y < d) = true := by simp; omega) | (have t4 : decide (y < d) = false := by simp; omega))
  go_enter Try.func37, Try.ntmps37
  go_wp2
  go_ret
  exact ⟨by first | rfl | exact ret_bool (by simp; omega), ((Grows.rfl' _).alloc' _).alloc' _⟩

set_option maxHeartbeats 1000000 in
theorem in_no (a b c d x y : Int) (w : World) (h : ¬ Inn a b c d x y) : Calls Try.prog 37 #[.agg #[.int .i64 x, .int .i64 y], box4 a b c d] w fun e w' => e = .returned (.bool false) ∧ Grows w w' := by
  have hcase := inn_cases a b c d x y h
  clear h
  rcases hcase with h1 | ⟨h1, h2⟩ | ⟨h1, h2, h3⟩ | ⟨h1, h2, h3, h4⟩
  all_goals
    (try first | (have t1 : decide (a ≤ x) = true := by simp; omega) | (have t1 : decide (a ≤ x) = false := by simp; omega))
    (try first | (have t2 : decide (x < c) = true := by simp; omega) | (have t2 : decide (x < c) = false := by simp; omega))
    (try first | (have t3 : decide (b ≤ y) = true := by simp; omega) | (have t3 : decide (b ≤ y) = false := by simp; omega))
    (try first | (have t4 : decide (y < d) = true := by simp; omega) | (have t4 : decide (y < d) = false := by simp; omega))
    go_enter Try.func37, Try.ntmps37
    go_wp2
    go_ret
    exact ⟨by first | rfl | exact ret_bool (by simp; omega), ((Grows.rfl' _).alloc' _).alloc' _⟩

/-! ### Lengths -/
set_option maxHeartbeats 400000 in
theorem dx_any (a b c d : Int) (w : World) (h1 : -9223372036854775808 ≤ c - a) (h2 : c - a ≤ 9223372036854775807) : Calls Try.prog 45 #[box4 a b c d] w fun e w' => e = .returned (.int .i64 (c - a)) ∧ Grows w w' := by
  go_enter Try.func45, Try.ntmps45
  go_wp2
  go_ret
  exact ⟨rfl, (Grows.rfl' _).alloc' _⟩

set_option maxHeartbeats 400000 in
theorem dy_any (a b c d : Int) (w : World) (h1 : -9223372036854775808 ≤ d - b) (h2 : d - b ≤ 9223372036854775807) : Calls Try.prog 46 #[box4 a b c d] w fun e w' => e = .returned (.int .i64 (d - b)) ∧ Grows w w' := by
  go_enter Try.func46, Try.ntmps46
  go_wp2
  go_ret
  exact ⟨rfl, (Grows.rfl' _).alloc' _⟩

set_option maxHeartbeats 400000 in
theorem mul64_any (x y : Int) (w : World) (h1 : 0 ≤ x) (h2 : x ≤ 4294967295) (h3 : 0 ≤ y) (h4 : y ≤ 4294967295) (h5 : 0 ≤ x * y) (h6 : x * y ≤ 4294967295) :
    Calls Try.prog 47 #[.int .u64 x, .int .u64 y] w fun e w' => e = .returned (.tuple #[.int .u64 0, .int .u64 (x * y)]) ∧ w = w' := by
  have e1 : bits .and .u64 x 4294967295 = x := by rw [and_low32 x h1 (by omega)]; omega
  have e2 : bits .and .u64 y 4294967295 = y := by rw [and_low32 y h3 (by omega)]; omega
  have e0 : bits .and .u64 0 4294967295 = 0 := by decide
  have d1 : x / 4294967296 = 0 := by omega
  have d2 : y / 4294967296 = 0 := by omega
  have d3 : (x * y) / 4294967296 = 0 := by omega
  go_enter Try.func47, Try.ntmps47
  go_wp2
  go_ret2
  exact ⟨rfl, rfl⟩
end Go.Proofs.Ytcohenlemddpfaa

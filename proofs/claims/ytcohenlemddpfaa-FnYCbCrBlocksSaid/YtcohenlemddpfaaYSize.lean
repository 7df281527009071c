/-
  Contracts of the reference's Span, of the statements' spans and plain, and of the library's yCbCrSize, mul3NonNeg and add2NonNeg. Conditions stand in each theorem.
-/
import Derived.Test.YtcohenlemddpfaaYMath
namespace Go.Proofs.Ytcohenlemddpfaa
open Go.RowKit
set_option linter.unusedVariables false

set_option maxHeartbeats 2000000 in
theorem span_any (r : Int) (w : World) (h0 : 0 ≤ r) (h5 : r ≤ 5) : Calls Try.prog 35 #[.int .i64 r] w fun e w' => e = .returned (.tuple #[.int .i64 (hsp r), .int .i64 (vsp r), .bool true]) ∧ w = w' := by
  rcases six h0 h5 with rfl | rfl | rfl | rfl | rfl | rfl
  all_goals
    clear h0 h5
    go_enter Try.func35, Try.ntmps35
    go_wp2
    go_ret3
    exact ⟨by simp [hsp, vsp], rfl⟩

set_option maxHeartbeats 2000000 in
theorem spans_any (r : Int) (w : World) (h0 : 0 ≤ r) (h5 : r ≤ 5) : Calls Try.prog 19 #[.int .i64 r] w fun e w' => e = .returned (.tuple #[.int .i64 (hsp r), .int .i64 (vsp r)]) ∧ w = w' := by
  have HS := Lib.hid (fun W => span_any r W h0 h5)
  clear h0 h5
  go_enter Try.func19, Try.ntmps19
  go_wp2_with fail
  refine (HS.out _).mono ?_
  rintro e w' ⟨rfl, rfl⟩
  go_wp2_with fail
  go_ret2
  exact ⟨rfl, rfl⟩

theorem results_tmp4 {fn : Func} {t u v x : Tmp} (h : fn.results = #[.tmp t, .tmp u, .tmp v, .tmp x]) (tmps : Array Value) (P : Program) (w : World) :
    (results fn tmps).run P w = .ok (.tuple #[tmps.getD t undef, tmps.getD u undef, tmps.getD v undef, tmps.getD x undef]) w := by
  simp [results, h]

theorem tuple4 {a b c d a' b' c' d' : Int} (h1 : a = a') (h2 : b = b') (h3 : c = c') (h4 : d = d') : Ending.returned (.tuple #[.int .i64 a, .int .i64 b, .int .i64 c, .int .i64 d]) = .returned (.tuple #[.int .i64 a', .int .i64 b', .int .i64 c', .int .i64 d']) := by
  rw [h1, h2, h3, h4]

set_option maxHeartbeats 2000000 in
theorem ysize_any (a b c d r : Int) (w : World) (h : PlainY a b c d r) :
    Calls Try.prog 38 #[box4 a b c d, .int .i64 r] w fun e w' => e = .returned (.tuple #[.int .i64 (c - a), .int .i64 (d - b), .int .i64 (acr a c (hsp r)), .int .i64 (acr b d (vsp r))]) ∧ Grows w w' := by
  obtain ⟨⟨⟨f1, f2⟩, ⟨f3, f4⟩, ⟨f5, f6⟩, ⟨f7, f8⟩⟩, ⟨p1, p2⟩, ⟨p3, p4⟩, ⟨r0, r5⟩⟩ := h
  have t1 : (c + 1).tdiv 2 = (c + 1) / 2 := Int.tdiv_eq_ediv_of_nonneg (by omega)
  have t2 : (d + 1).tdiv 2 = (d + 1) / 2 := Int.tdiv_eq_ediv_of_nonneg (by omega)
  have t3 : (c + 3).tdiv 4 = (c + 3) / 4 := Int.tdiv_eq_ediv_of_nonneg (by omega)
  have t4 : a.tdiv 2 = a / 2 := Int.tdiv_eq_ediv_of_nonneg p1
  have t5 : b.tdiv 2 = b / 2 := Int.tdiv_eq_ediv_of_nonneg p2
  have t6 : a.tdiv 4 = a / 4 := Int.tdiv_eq_ediv_of_nonneg p1
  rcases six r0 r5 with rfl | rfl | rfl | rfl | rfl | rfl
  all_goals
    clear r0 r5
    go_enter Try.func38, Try.ntmps38
    go_wp2_with fail
    apply wp_region_lex_lit 6 (by kernel_rfl) (by kernel_rfl)
    iterate 6
      apply lex_pin
      · intro wq hgq hdq Kq hKq
        obtain ⟨hcq, _⟩ := hgq.cells
        go_wp2_with ((first | (go_at_call 45; refine (dx_any _ _ _ _ _ (by omega) (by omega)).mono ?_) | (go_at_call 46; refine (dy_any _ _ _ _ _ (by omega) (by omega)).mono ?_)); rintro e wq' ⟨rfl, hgq'⟩)
        first | exact hKq _ (Grows.rfl' _) | exact hKq _ hgq'
      · kernel_rfl
    refine lex_end ?_
    intro w3 hg3 _
    obtain ⟨hcq, _⟩ := hg3.cells
    have HG : Hid (Grows w w3) := ((Grows.rfl' w).alloc' _).drew'.step hg3
    clear hg3
    go_wp2_with fail
    (try simp only [Exit.inBlock, Exit.then])
    refine bodyPost_ret (results_tmp4 rfl _ _ _) rfl ?_
    exact ⟨tuple4 rfl rfl (by simp [acr, hsp] <;> omega) (by simp [acr, vsp] <;> omega), HG.out⟩
theorem info_byte : (Try.prog.info? 5).map (fun i => (i.zero, i.size, i.bytes)) = some (some (.int .u8 0), 1, 1) := by kernel_rfl

set_option maxHeartbeats 1000000 in
theorem mul3_any (x y z : Int) (w : World) (h1 : 0 ≤ x) (h2 : x ≤ 4) (h3 : 0 ≤ y) (h4 : y ≤ 1000) (h5 : 0 ≤ z) (h6 : z ≤ 1000) :
    Calls Try.prog 40 #[.int .i64 x, .int .i64 y, .int .i64 z] w fun e w' => e = .returned (.int .i64 (x * y * z)) ∧ w = w' := by
  have p1 : 0 ≤ x * y := Int.mul_nonneg h1 h3
  have p2 : x * y ≤ 4 * 1000 := Int.mul_le_mul (by omega) (by omega) (by omega) (by omega)
  have p3 : 0 ≤ x * y * z := Int.mul_nonneg p1 h5
  have p4 : x * y * z ≤ 4000 * 1000 := Int.mul_le_mul (by omega) (by omega) (by omega) (by omega)
  have t1 : decide (x < 0) = false := by simp; omega
  have t2 : decide (y < 0) = false := by simp; omega
  have t3 : decide (z < 0) = false := by simp; omega
  go_enter Try.func40, Try.ntmps40
  go_wp2_with fail
  refine (mul64_any x y _ (by omega) (by omega) (by omega) (by omega) (by omega) (by omega)).mono ?_
  rintro e w' ⟨rfl, rfl⟩
  go_wp2_with fail
  refine (mul64_any (x * y) z _ (by omega) (by omega) (by omega) (by omega) (by omega) (by omega)).mono ?_
  rintro e w' ⟨rfl, rfl⟩
  have t4 : decide (x * y * z < 0) = false := by simp; omega
  have t5 : (x * y * z != x * y * z) = false := by simp
  go_wp2_with fail
  go_ret
  exact ⟨rfl, rfl⟩

set_option maxHeartbeats 1000000 in
theorem add2_any (x y : Int) (w : World) (h1 : 0 ≤ x) (h2 : x ≤ 9000000) (h3 : 0 ≤ y) (h4 : y ≤ 9000000) : Calls Try.prog 39 #[.int .i64 x, .int .i64 y] w fun e w' => e = .returned (.int .i64 (x + y)) ∧ w = w' := by
  have t1 : decide (x < 0) = false := by simp; omega
  have t2 : decide (y < 0) = false := by simp; omega
  have t3 : decide (x + y < 0) = false := by simp; omega
  go_enter Try.func39, Try.ntmps39
  go_wp2
  go_ret
  exact ⟨rfl, rfl⟩

/-! ### plain -/
set_option maxHeartbeats 2000000 in
theorem plainY_yes (a b c d r : Int) (w : World) (h : PlainY a b c d r) : Calls Try.prog 9 #[box4 a b c d, .int .i64 r] w fun e w' => e = .returned (.bool true) ∧ Grows w w' := by
  have HF := Lib.hid h.1
  obtain ⟨_, ⟨p1, p2⟩, ⟨p3, p4⟩, ⟨r0, r5⟩⟩ := h
  have t1 : decide (0 ≤ a) = true := decide_eq_true p1
  have t2 : decide (0 ≤ b) = true := decide_eq_true p2
  have t3 : decide (a < c) = true := decide_eq_true p3
  have t4 : decide (b < d) = true := decide_eq_true p4
  have t5 : decide (0 ≤ r) = true := decide_eq_true r0
  have t6 : decide (r ≤ 5) = true := decide_eq_true r5
  go_enter Try.func9, Try.ntmps9
  go_wp2_with fail
  refine (fine_yes _ _ _ _ _ HF.out).mono ?_
  rintro e w1 ⟨rfl, hg1⟩
  have q0 : w1.cell? ⟨w.heap.size, 0, none⟩ = some (.int .i64 a) := hg1.cell_some (by simp)
  have q1 : w1.cell? ⟨w.heap.size, 1, none⟩ = some (.int .i64 b) := hg1.cell_some (by simp)
  have q2 : w1.cell? ⟨w.heap.size, 2, none⟩ = some (.int .i64 c) := hg1.cell_some (by simp)
  have q3 : w1.cell? ⟨w.heap.size, 3, none⟩ = some (.int .i64 d) := hg1.cell_some (by simp)
  have HG : Hid (Grows w w1) := ((Grows.rfl' w).alloc' _).step hg1
  clear hg1
  go_wp2_with fail
  go_ret
  exact ⟨by first | rfl | exact ret_bool (by simp; omega), HG.out⟩

set_option maxHeartbeats 4000000 in
theorem plainY_no (a b c d r : Int) (w : World) (h : ¬ PlainY a b c d r) (ha : I64 a) (hb : I64 b) : Calls Try.prog 9 #[box4 a b c d, .int .i64 r] w fun e w' => e = .returned (.bool false) ∧ Grows w w' := by
  by_cases hf : Fine a b c d
  · have HF := Lib.hid hf
    have hcase : a < 0 ∨ (0 ≤ a ∧ b < 0) ∨ (0 ≤ a ∧ 0 ≤ b ∧ c ≤ a) ∨ (0 ≤ a ∧ 0 ≤ b ∧ a < c ∧ d ≤ b) ∨ (0 ≤ a ∧ 0 ≤ b ∧ a < c ∧ b < d ∧ r < 0) ∨ (0 ≤ a ∧ 0 ≤ b ∧ a < c ∧ b < d ∧ 0 ≤ r ∧ 5 < r) := by
      have h' : ¬ ((0 ≤ a ∧ 0 ≤ b) ∧ (a < c ∧ b < d) ∧ (0 ≤ r ∧ r ≤ 5)) := fun h2 => h ⟨hf, h2⟩
      omega
    clear h hf
    rcases hcase with h1 | ⟨h1, h2⟩ | ⟨h1, h2, h3⟩ | ⟨h1, h2, h3, h4⟩ | ⟨h1, h2, h3, h4, h5⟩ | ⟨h1, h2, h3, h4, h5, h6⟩
    all_goals
      (try first | (have t1 : decide (0 ≤ a) = true := decide_eq_true (by omega)) | (have t1 : decide (0 ≤ a) = false := decide_eq_false (by omega)))
      (try first | (have t2 : decide (0 ≤ b) = true := decide_eq_true (by omega)) | (have t2 : decide (0 ≤ b) = false := decide_eq_false (by omega)))
      (try first | (have t3 : decide (a < c) = true := decide_eq_true (by omega)) | (have t3 : decide (a < c) = false := decide_eq_false (by omega)))
      (try first | (have t4 : decide (b < d) = true := decide_eq_true (by omega)) | (have t4 : decide (b < d) = false := decide_eq_false (by omega)))
      (try first | (have t5 : decide (0 ≤ r) = true := decide_eq_true (by omega)) | (have t5 : decide (0 ≤ r) = false := decide_eq_false (by omega)))
      (try first | (have t6 : decide (r ≤ 5) = true := decide_eq_true (by omega)) | (have t6 : decide (r ≤ 5) = false := decide_eq_false (by omega)))
      go_enter Try.func9, Try.ntmps9
      go_wp2_with fail
      refine (fine_yes _ _ _ _ _ HF.out).mono ?_
      rintro e w1 ⟨rfl, hg1⟩
      have q0 : w1.cell? ⟨w.heap.size, 0, none⟩ = some (.int .i64 a) := hg1.cell_some (by simp)
      have q1 : w1.cell? ⟨w.heap.size, 1, none⟩ = some (.int .i64 b) := hg1.cell_some (by simp)
      have q2 : w1.cell? ⟨w.heap.size, 2, none⟩ = some (.int .i64 c) := hg1.cell_some (by simp)
      have q3 : w1.cell? ⟨w.heap.size, 3, none⟩ = some (.int .i64 d) := hg1.cell_some (by simp)
      have HG : Hid (Grows w w1) := ((Grows.rfl' w).alloc' _).step hg1
      clear hg1
      go_wp2_with fail
      go_ret
      exact ⟨by first | rfl | exact ret_bool (by simp; omega), HG.out⟩
  · have HF := Lib.hid hf
    clear h hf
    go_enter Try.func9, Try.ntmps9
    go_wp2_with fail
    refine (fine_no _ _ _ _ _ HF.out ha hb).mono ?_
    rintro e w1 ⟨rfl, hg1⟩
    have HG : Hid (Grows w w1) := ((Grows.rfl' w).alloc' _).step hg1
    clear hg1
    go_wp2_with fail
    go_ret
    exact ⟨rfl, HG.out⟩
end Go.Proofs.Ytcohenlemddpfaa

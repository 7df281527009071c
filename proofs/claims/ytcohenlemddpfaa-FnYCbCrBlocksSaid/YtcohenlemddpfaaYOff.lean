/-
  Contracts of image.YCbCr's YOffset, COffset and Opaque at an image in memory, of the thin package's functions over them, and of the reference's offsets. Conditions stand in each theorem.
-/
import Derived.Test.YtcohenlemddpfaaYNew
namespace Go.Proofs.Ytcohenlemddpfaa
open Go.RowKit
set_option linter.unusedVariables false

set_option maxHeartbeats 2000000 in
theorem yOff_in (ib i : Nat) (vy vb vr : Value) (ys cs r a b c d x y : Int) (w : World) (hI : ImgY w ib vy vb vr ys cs r a b c d) (h1 : 0 ≤ y - b) (h2 : y - b ≤ 1000) (h3 : 0 ≤ x - a) (h4 : x - a ≤ 1000) (h5 : 0 ≤ ys) (h6 : ys ≤ 1000)
    (hi : (y - b) * ys + (x - a) = (i : Int)) :
    Calls Try.prog 24 #[.pointer (some ⟨ib, 0, none⟩), .int .i64 x, .int .i64 y] w fun e w' => e = .returned (.int .i64 i) ∧ Grows w w' := by
  have HI := Lib.hid hI
  have HE := Lib.hid hi
  have p1 : 0 ≤ (y - b) * ys := Int.mul_nonneg h1 h5
  have p2 : (y - b) * ys ≤ 1000 * 1000 := Int.mul_le_mul (by omega) (by omega) (by omega) (by omega)
  clear hI hi
  go_enter Try.func24, Try.ntmps24
  go_wp2_with fail
  apply wp_region_lex_lit 23 (by kernel_rfl) (by kernel_rfl)
  iterate 23
    apply lex_pin
    · intro wq hgq hdq Kq hKq
      obtain ⟨q0, q1, q2, q3, q4, q5, q6, q7, q8, q9⟩ := (HI.out.grows ((Grows.rfl' _).drew'.step hgq)).cells
      go_wp2
      exact hKq _ (Grows.rfl' _)
    · kernel_rfl
  refine lex_end ?_
  intro w3 hg3 _
  go_wp2
  go_ret
  exact ⟨ret_int (by have := HE.out; omega), (Grows.rfl' _).drew'.step hg3⟩

set_option maxRecDepth 20000 in
set_option maxHeartbeats 4000000 in
theorem cOff_in (ib i : Nat) (vy vb vr : Value) (ys cs r a b c d x y : Int) (w : World) (hI : ImgY w ib vy vb vr ys cs r a b c d) (r0 : 0 ≤ r) (r5 : r ≤ 5) (h0 : 0 ≤ a) (h0' : 0 ≤ b) (h1 : b ≤ y) (h2 : y ≤ b + 1000) (h3 : a ≤ x) (h4 : x ≤ a + 1000) (h5 : 0 ≤ cs) (h6 : cs ≤ 1000) (h7 : a ≤ 4611686018427387904) (h8 : b ≤ 4611686018427387904)
    (hi : (y / vsp r - b / vsp r) * cs + (x / hsp r - a / hsp r) = (i : Int)) :
    Calls Try.prog 25 #[.pointer (some ⟨ib, 0, none⟩), .int .i64 x, .int .i64 y] w fun e w' => e = .returned (.int .i64 i) ∧ Grows w w' := by
  have HI := Lib.hid hI
  have HE := Lib.hid hi
  have m1 : 0 ≤ (y - b) * cs := Int.mul_nonneg (by omega) h5
  have m2 : (y - b) * cs ≤ 1000 * 1000 := Int.mul_le_mul (by omega) (by omega) (by omega) (by omega)
  have m3 : 0 ≤ (y / 2 - b / 2) * cs := Int.mul_nonneg (by omega) h5
  have m4 : (y / 2 - b / 2) * cs ≤ 1000 * 1000 := Int.mul_le_mul (by omega) (by omega) (by omega) (by omega)
  have t1 : x.tdiv 2 = x / 2 := Int.tdiv_eq_ediv_of_nonneg (by omega)
  have t2 : a.tdiv 2 = a / 2 := Int.tdiv_eq_ediv_of_nonneg (by omega)
  have t3 : y.tdiv 2 = y / 2 := Int.tdiv_eq_ediv_of_nonneg (by omega)
  have t4 : b.tdiv 2 = b / 2 := Int.tdiv_eq_ediv_of_nonneg (by omega)
  have t5 : x.tdiv 4 = x / 4 := Int.tdiv_eq_ediv_of_nonneg (by omega)
  have t6 : a.tdiv 4 = a / 4 := Int.tdiv_eq_ediv_of_nonneg (by omega)
  obtain ⟨q0, q1, q2, q3, q4, q5, q6, q7, q8, q9⟩ := hI.cells
  clear hI hi
  rcases six r0 r5 with rfl | rfl | rfl | rfl | rfl | rfl
  · clear r0 r5
    go_enter Try.func25, Try.ntmps25
    go_wp2_with fail
    apply wp_region_lex_lit 23 (by kernel_rfl) (by kernel_rfl)
    iterate 23
      apply lex_pin
      · intro wq hgq hdq Kq hKq
        obtain ⟨q0, q1, q2, q3, q4, q5, q6, q7, q8, q9⟩ := (HI.out.grows ((Grows.rfl' _).drew'.step hgq)).cells
        go_wp2
        exact hKq _ (Grows.rfl' _)
      · kernel_rfl
    refine lex_end ?_
    intro w3 hg3 _
    go_wp2
    go_ret
    exact ⟨ret_int (by have := HE.out; simp [hsp, vsp] at this; omega), (Grows.rfl' _).drew'.step hg3⟩
  · clear r0 r5
    go_enter Try.func25, Try.ntmps25
    go_wp2_with fail
    apply wp_region_lex_lit 25 (by kernel_rfl) (by kernel_rfl)
    iterate 25
      apply lex_pin
      · intro wq hgq hdq Kq hKq
        obtain ⟨q0, q1, q2, q3, q4, q5, q6, q7, q8, q9⟩ := (HI.out.grows ((Grows.rfl' _).drew'.step hgq)).cells
        go_wp2
        exact hKq _ (Grows.rfl' _)
      · kernel_rfl
    refine lex_end ?_
    intro w3 hg3 _
    go_wp2
    go_ret
    exact ⟨ret_int (by have := HE.out; simp [hsp, vsp] at this; omega), (Grows.rfl' _).drew'.step hg3⟩
  · clear r0 r5
    go_enter Try.func25, Try.ntmps25
    go_wp2_with fail
    apply wp_region_lex_lit 27 (by kernel_rfl) (by kernel_rfl)
    iterate 27
      apply lex_pin
      · intro wq hgq hdq Kq hKq
        obtain ⟨q0, q1, q2, q3, q4, q5, q6, q7, q8, q9⟩ := (HI.out.grows ((Grows.rfl' _).drew'.step hgq)).cells
        go_wp2
        exact hKq _ (Grows.rfl' _)
      · kernel_rfl
    refine lex_end ?_
    intro w3 hg3 _
    go_wp2
    go_ret
    exact ⟨ret_int (by have := HE.out; simp [hsp, vsp] at this; omega), (Grows.rfl' _).drew'.step hg3⟩
  · clear r0 r5
    go_enter Try.func25, Try.ntmps25
    go_wp2_with fail
    apply wp_region_lex_lit 25 (by kernel_rfl) (by kernel_rfl)
    iterate 25
      apply lex_pin
      · intro wq hgq hdq Kq hKq
        obtain ⟨q0, q1, q2, q3, q4, q5, q6, q7, q8, q9⟩ := (HI.out.grows ((Grows.rfl' _).drew'.step hgq)).cells
        go_wp2
        exact hKq _ (Grows.rfl' _)
      · kernel_rfl
    refine lex_end ?_
    intro w3 hg3 _
    go_wp2
    go_ret
    exact ⟨ret_int (by have := HE.out; simp [hsp, vsp] at this; omega), (Grows.rfl' _).drew'.step hg3⟩
  · clear r0 r5
    go_enter Try.func25, Try.ntmps25
    go_wp2_with fail
    apply wp_region_lex_lit 25 (by kernel_rfl) (by kernel_rfl)
    iterate 25
      apply lex_pin
      · intro wq hgq hdq Kq hKq
        obtain ⟨q0, q1, q2, q3, q4, q5, q6, q7, q8, q9⟩ := (HI.out.grows ((Grows.rfl' _).drew'.step hgq)).cells
        go_wp2
        exact hKq _ (Grows.rfl' _)
      · kernel_rfl
    refine lex_end ?_
    intro w3 hg3 _
    go_wp2
    go_ret
    exact ⟨ret_int (by have := HE.out; simp [hsp, vsp] at this; omega), (Grows.rfl' _).drew'.step hg3⟩
  · clear r0 r5
    go_enter Try.func25, Try.ntmps25
    go_wp2_with fail
    apply wp_region_lex_lit 27 (by kernel_rfl) (by kernel_rfl)
    iterate 27
      apply lex_pin
      · intro wq hgq hdq Kq hKq
        obtain ⟨q0, q1, q2, q3, q4, q5, q6, q7, q8, q9⟩ := (HI.out.grows ((Grows.rfl' _).drew'.step hgq)).cells
        go_wp2
        exact hKq _ (Grows.rfl' _)
      · kernel_rfl
    refine lex_end ?_
    intro w3 hg3 _
    go_wp2
    go_ret
    exact ⟨ret_int (by have := HE.out; simp [hsp, vsp] at this; omega), (Grows.rfl' _).drew'.step hg3⟩
end Go.Proofs.Ytcohenlemddpfaa

/-
  Contracts of image.CMYK's PixOffset, CMYKAt and At at an image in memory. Conditions stand in each theorem.
-/
import Derived.Test.YtfnmgkbeeckjnaaNew
namespace Go.Proofs.Ytfnmgkbeeckjnaa
open Go.RowKit
set_option linter.unusedVariables false

set_option maxHeartbeats 1000000 in
theorem pixOffset_in (ib i : Nat) (pv : Value) (st a b c d x y : Int) (w : World) (hI : ImgAt w ib pv st a b c d) (h1 : 0 ≤ y - b) (h2 : y - b ≤ 1000) (h3 : 0 ≤ x - a) (h4 : x - a ≤ 1000) (h5 : 0 ≤ st) (h6 : st ≤ 4000)
    (hi : (y - b) * st + (x - a) * 4 = (i : Int)) :
    Calls Try.prog 46 #[.pointer (some ⟨ib, 0, none⟩), .int .i64 x, .int .i64 y] w fun e w' => e = .returned (.int .i64 i) ∧ Grows w w' := by
  have HI := Lib.hid hI
  have HE := Lib.hid hi
  have p1 : 0 ≤ (y - b) * st := Int.mul_nonneg h1 h5
  have p2 : (y - b) * st ≤ 1000 * 4000 := Int.mul_le_mul (by omega) (by omega) (by omega) (by omega)
  clear hI hi
  go_enter Try.func46, Try.ntmps46
  go_wp2_with fail
  apply wp_region_lex_lit 24 (by kernel_rfl) (by kernel_rfl)
  iterate 24
    apply lex_pin
    · intro wq hgq hdq Kq hKq
      obtain ⟨q0, q1, q2, q3, q4, q5⟩ := (HI.out.grows ((Grows.rfl' _).drew'.step hgq)).cells
      go_wp2
      exact hKq _ (Grows.rfl' _)
    · kernel_rfl
  refine lex_end ?_
  intro w3 hg3 _
  go_wp2
  go_ret
  exact ⟨ret_int (by have := HE.out; omega), (Grows.rfl' _).drew'.step hg3⟩

set_option maxHeartbeats 1000000 in
theorem famAt_in (ib pb o len N i : Nat) (f : Nat → Int) (st a b c d x y : Int) (w : World) (hI : ImgAt w ib (.slice (some ⟨pb, o, none⟩) len len) st a b c d) (hP : Px w pb N f) (hin : Inn a b c d x y) (hx : c - a ≤ 1000) (hy : d - b ≤ 1000) (h5 : 0 ≤ st) (h6 : st ≤ 4000)
    (hi : (y - b) * st + (x - a) * 4 = (i : Int)) (hl : i + 4 ≤ len) (hN : o + len ≤ N) (hm : N ≤ 17592186044416) :
    Calls Try.prog 41 #[.pointer (some ⟨ib, 0, none⟩), .int .i64 x, .int .i64 y] w fun e w' => e = .returned (.agg #[.int .u8 (f (o + i)), .int .u8 (f (o + i + 1)), .int .u8 (f (o + i + 2)), .int .u8 (f (o + i + 3))]) ∧ Grows w w' := by
  have HI := Lib.hid hI
  have HIN := Lib.hid hin
  have HE := Lib.hid hi
  have k0 := hP.cell (i := o + i) (by omega)
  have k1 := hP.cell (i := o + i + 1) (by omega)
  have k2 := hP.cell (i := o + i + 2) (by omega)
  have k3 := hP.cell (i := o + i + 3) (by omega)
  obtain ⟨q0, q1, q2, q3, q4, q5⟩ := hI.cells
  obtain ⟨i1, i2, i3, i4⟩ := hin
  generalize f (o + i) = u0 at *
  generalize f (o + i + 1) = u1 at *
  generalize f (o + i + 2) = u2 at *
  generalize f (o + i + 3) = u3 at *
  clear hI hi hP
  go_enter Try.func41, Try.ntmps41
  have hlt : ib < w.heap.size := cell_lt q0
  have hlt2 : pb < w.heap.size := cell_lt k0
  go_wp2_with fail
  refine (in_yes _ _ _ _ _ _ _ HIN.out).mono ?_
  rintro e w1 ⟨rfl, hg1⟩
  have HG1 : Hid (Grows w w1) := ((Grows.rfl' w).alloc' _).step hg1
  have HGB := Lib.hid hg1
  have HI1 := Lib.hid (HI.out.grows HG1.out)
  clear hg1
  go_wp2_with fail
  refine (pixOffset_in ib i _ st a b c d x y _ HI1.out (by omega) (by omega) (by omega) (by omega) h5 h6 HE.out).mono ?_
  rintro e w2 ⟨rfl, hg2⟩
  have hg02 := HG1.out.step hg2
  obtain ⟨r0, r1, r2, r3, r4, r5⟩ := (HI.out.grows hg02).cells
  have m0 := hg02.cell_some k0
  have m1 := hg02.cell_some k1
  have m2 := hg02.cell_some k2
  have m3 := hg02.cell_some k3
  have HG2 := Lib.hid hg02
  have HGB2 := Lib.hid (HGB.out.step hg2)
  clear hg2 hg02 k0 k1 k2 k3 q0 q1 q2 q3 q4 q5
  have e1 : Hid (((i : Int) + 4).toNat = i + 4) := by unfold Hid; omega
  have b1 : (i : Int) + 4 ≤ (len : Int) := by omega
  have b2 : ¬ len = i := by omega
  go_wp2_with fail
  have e4 : i + 4 - i = 4 := by omega
  rw [e4]
  clear e4
  apply wp_region_lex_lit 12 (by kernel_rfl) (by kernel_rfl)
  iterate 12
    apply lex_pin
    · intro wq hgq hdq Kq hKq
      have n0 := hgq.cell_some m0
      have n1 := hgq.cell_some m1
      have n2 := hgq.cell_some m2
      have n3 := hgq.cell_some m3
      go_wp2
      exact hKq _ (Grows.rfl' _)
    · kernel_rfl
  refine lex_end ?_
  intro w3 hg3 _
  obtain ⟨hcq, hfq⟩ := (HGB2.out.drew'.step hg3).cells
  have HG3 := Lib.hid (HG2.out.drew'.step hg3)
  clear hg3 m0 m1 m2 m3 HGB2 HGB
  go_wp2_with fail
  refine bodyPost_ret (v := .agg #[.int .u8 u0, .int .u8 u1, .int .u8 u2, .int .u8 u3]) (by simp [results, Try.results41, go_sem, hcq]) rfl ⟨rfl, ?_⟩
  iterate 4 refine Grows.set' ?_ (by simp) _
  exact HG3.out

set_option maxHeartbeats 1000000 in
theorem famAt_out (ib : Nat) (pv : Value) (st a b c d x y : Int) (w : World) (hI : ImgAt w ib pv st a b c d) (hin : ¬ Inn a b c d x y) :
    Calls Try.prog 41 #[.pointer (some ⟨ib, 0, none⟩), .int .i64 x, .int .i64 y] w fun e w' => e = .returned (.agg #[.int .u8 0, .int .u8 0, .int .u8 0, .int .u8 0]) ∧ Grows w w' := by
  have HIN := Lib.hid hin
  obtain ⟨q0, q1, q2, q3, q4, q5⟩ := hI.cells
  have hlt : ib < w.heap.size := cell_lt q0
  clear hI hin
  go_enter Try.func41, Try.ntmps41
  go_wp2_with fail
  refine (in_no _ _ _ _ _ _ _ HIN.out).mono ?_
  rintro e w1 ⟨rfl, hg1⟩
  have HG1 : Hid (Grows w w1) := ((Grows.rfl' w).alloc' _).step hg1
  obtain ⟨hcq, hfq⟩ := hg1.cells
  clear hg1
  go_wp2_with fail
  refine bodyPost_ret (v := (.agg #[.int .u8 0, .int .u8 0, .int .u8 0, .int .u8 0])) (by simp [results, Try.results41, go_sem, hcq]) rfl ⟨rfl, ?_⟩
  iterate 4 refine Grows.set' ?_ (by simp) _
  exact HG1.out
end Go.Proofs.Ytfnmgkbeeckjnaa

/-
  Contracts of image.Alpha's PixOffset, AlphaAt and At at an image in memory. Conditions stand in each theorem.
-/
import Derived.Test.YtmjcfbifkkbieaaNew
namespace Go.Proofs.Ytmjcfbifkkbieaa
open Go.RowKit
set_option linter.unusedVariables false

set_option maxHeartbeats 1000000 in
theorem pixOffset_in (ib i : Nat) (pv : Value) (st a b c d x y : Int) (w : World) (hI : ImgAt w ib pv st a b c d) (h1 : 0 ≤ y - b) (h2 : y - b ≤ 1000) (h3 : 0 ≤ x - a) (h4 : x - a ≤ 1000) (h5 : 0 ≤ st) (h6 : st ≤ 4000)
    (hi : (y - b) * st + (x - a) * 1 = (i : Int)) :
    Calls Try.prog 30 #[.pointer (some ⟨ib, 0, none⟩), .int .i64 x, .int .i64 y] w fun e w' => e = .returned (.int .i64 i) ∧ Grows w w' := by
  have HI := Lib.hid hI
  have HE := Lib.hid hi
  have p1 : 0 ≤ (y - b) * st := Int.mul_nonneg h1 h5
  have p2 : (y - b) * st ≤ 1000 * 4000 := Int.mul_le_mul (by omega) (by omega) (by omega) (by omega)
  clear hI hi
  go_enter Try.func30, Try.ntmps30
  go_wp2_with fail
  apply wp_region_lex_lit 24 (by kernel_rfl) (by kernel_rfl)
  iterate 24
    apply lex_pin
    · intro wq hgq hdq Kq hKq
      obtain ⟨q0, q1, q2, q3, q4, q5⟩ := (HI.out.grows ((Grows.rfl' _).drew'.step hgq)).cells
      go_wp2
      exact hKq _ (Grows.rfl' _)
    · kernel_rfl
  refine lex_end ?_
  intro w3 hg3 _
  go_wp2
  go_ret
  exact ⟨ret_int (by have := HE.out; omega), (Grows.rfl' _).drew'.step hg3⟩

set_option maxHeartbeats 1000000 in
theorem famAt_in (ib pb o len N i : Nat) (f : Nat → Int) (st a b c d x y : Int) (w : World) (hI : ImgAt w ib (.slice (some ⟨pb, o, none⟩) len len) st a b c d) (hP : Px w pb N f) (hin : Inn a b c d x y) (hx : c - a ≤ 1000) (hy : d - b ≤ 1000) (h5 : 0 ≤ st) (h6 : st ≤ 4000)
    (hi : (y - b) * st + (x - a) * 1 = (i : Int)) (hl : i + 1 ≤ len) (hN : o + len ≤ N) (hm : N ≤ 17592186044416) :
    Calls Try.prog 21 #[.pointer (some ⟨ib, 0, none⟩), .int .i64 x, .int .i64 y] w fun e w' => e = .returned (.agg #[.int .u8 (f (o + i))]) ∧ Grows w w' := by
  have HI := Lib.hid hI
  have HIN := Lib.hid hin
  have HE := Lib.hid hi
  have hcell := hP.cell (i := o + i) (by omega)
  obtain ⟨q0, q1, q2, q3, q4, q5⟩ := hI.cells
  obtain ⟨i1, i2, i3, i4⟩ := hin
  generalize f (o + i) = u at *
  clear hI hi hP
  go_enter Try.func21, Try.ntmps21
  have hne : ib ≠ w.heap.size := by have := cell_lt q0; simp at this; omega
  have hlt : ib < w.heap.size := cell_lt q0
  have hlt2 : pb < w.heap.size := cell_lt hcell
  go_wp2_with fail
  refine (in_yes _ _ _ _ _ _ _ HIN.out).mono ?_
  rintro e w1 ⟨rfl, hg1⟩
  have HG1 : Hid (Grows w w1) := ((Grows.rfl' w).alloc' _).step hg1
  have HI1 := Lib.hid (HI.out.grows HG1.out)
  have hbx : w1.cell? ⟨w.heap.size, 0, none⟩ = some (.int .u8 0) := hg1.cell_some (by simp)
  have hbf : w1.frozen? ⟨w.heap.size, 0, none⟩ = false := by
    have := hg1.cells.2 w.heap.size 0 (by simp)
    rw [this]; simp
  clear hg1
  go_wp2_with fail
  refine (pixOffset_in ib i _ st a b c d x y _ HI1.out (by omega) (by omega) (by omega) (by omega) h5 h6 HE.out).mono ?_
  rintro e w2 ⟨rfl, hg2⟩
  have hg02 := HG1.out.step hg2
  obtain ⟨r0, r1, r2, r3, r4, r5⟩ := (HI.out.grows hg02).cells
  have hcell2 := hg02.cell_some hcell
  have hbx2 := hg2.cell_some hbx
  have hbf2 : w2.frozen? ⟨w.heap.size, 0, none⟩ = false := by rw [hg2.frozen (p := ⟨w.heap.size, 0, none⟩) (cell_lt hbx)]; exact hbf
  have HG2 := Lib.hid hg02
  clear hg2 hg02 hbx hbf hcell q0 q1 q2 q3 q4 q5
  go_wp2_with fail
  exact bodyPost_ret (v := .agg #[.int .u8 u]) (by simp [results, Try.results21, go_sem, hbx2]) rfl ⟨rfl, HG2.out.set' (by simp) _⟩

set_option maxHeartbeats 1000000 in
theorem famAt_out (ib : Nat) (pv : Value) (st a b c d x y : Int) (w : World) (hI : ImgAt w ib pv st a b c d) (hin : ¬ Inn a b c d x y) :
    Calls Try.prog 21 #[.pointer (some ⟨ib, 0, none⟩), .int .i64 x, .int .i64 y] w fun e w' => e = .returned (.agg #[.int .u8 0]) ∧ Grows w w' := by
  have HIN := Lib.hid hin
  obtain ⟨q0, q1, q2, q3, q4, q5⟩ := hI.cells
  have hlt : ib < w.heap.size := cell_lt q0
  clear hI hin
  go_enter Try.func21, Try.ntmps21
  go_wp2_with fail
  refine (in_no _ _ _ _ _ _ _ HIN.out).mono ?_
  rintro e w1 ⟨rfl, hg1⟩
  have HG1 : Hid (Grows w w1) := ((Grows.rfl' w).alloc' _).step hg1
  obtain ⟨hcq, hfq⟩ := hg1.cells
  clear hg1
  go_wp2_with fail
  refine bodyPost_ret (v := (.agg #[.int .u8 0])) (by simp [results, Try.results21, go_sem, hcq]) rfl ⟨rfl, ?_⟩
  iterate 1 refine Grows.set' ?_ (by simp) _
  exact HG1.out
end Go.Proofs.Ytmjcfbifkkbieaa

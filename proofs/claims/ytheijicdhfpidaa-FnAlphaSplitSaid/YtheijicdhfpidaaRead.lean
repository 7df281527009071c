/-
  Contracts of the thin package's and of the reference's AlphaRead, AlphaColor and AlphaOffset. Conditions: the rectangle is fine, the numbers read as a list.
-/
import Derived.Test.YtheijicdhfpidaaFamAt
import Derived.Test.YtheijicdhfpidaaSamePic
namespace Go.Proofs.Ytheijicdhfpidaa
open Go.RowKit
set_option linter.unusedVariables false

/-- The j-th number of the pixel at x, y; 0 outside. -/
def px (a b c d : Int) (k : Nat) (zs : List Int) (x y : Int) (j : Nat) : Int := if Inn a b c d x y then byteAt zs (((y - b) * sd a c k + (x - a) * k).toNat + j) else 0
theorem px_in {a b c d x y : Int} {k : Nat} {zs : List Int} {i : Nat} (h : Inn a b c d x y) (hi : (y - b) * sd a c k + (x - a) * k = (i : Int)) (j : Nat) : px a b c d k zs x y j = byteAt zs (i + j) := by
  unfold px
  rw [if_pos h, hi]
  rfl
theorem px_out {a b c d x y : Int} {k : Nat} {zs : List Int} (h : ¬ Inn a b c d x y) (j : Nat) : px a b c d k zs x y j = 0 := if_neg h
theorem px_bd (a b c d x y : Int) (k : Nat) (zs : List Int) (j : Nat) : 0 ≤ px a b c d k zs x y j ∧ px a b c d k zs x y j ≤ 255 := by
  unfold px
  split
  · exact byteAt_in _ _
  · omega

theorem field_alpha (n : Int) (w : World) : (Instr.field 65 (.agg #[.int .u8 n]) 0).run Try.prog w = .ok (.int .u8 n) w := by kernel_rfl

set_option maxHeartbeats 1000000 in
theorem read_any (a b c d x y : Int) (v : Value) (zs : List Int) (w : World) (hf : Fine a b c d) (h : RdI w v zs) :
    Calls Try.prog 22 #[box4 a b c d, v, .int .i64 x, .int .i64 y] w fun e w' => e = .returned (.int .i64 (px a b c d 1 zs x y 0)) ∧ Grows w w' := by
  have HR := Lib.hid h
  have HF := Lib.hid hf
  have htl := total_le (k := 1) (by omega) hf
  have hsd := sd_in (k := 1) (by omega) hf
  obtain ⟨A, cc, rfl, _⟩ := h
  obtain ⟨⟨f1, f2⟩, ⟨f3, f4⟩, ⟨f5, f6⟩, ⟨f7, f8⟩⟩ := hf
  have hfl := field_alpha
  go_enter Try.func22, Try.ntmps22
  go_wp2_with fail
  refine (mk_any _ _ _ _ _ zs _ HF.out (HR.out.grows ((Grows.rfl' w).alloc' _))).mono ?_
  rintro e w1 ⟨ib, pb, rfl, hib, hpb, him, hpx, hg1⟩
  have HI := Lib.hid him
  have HP := Lib.hid hpx
  have HG : Hid (Grows w w1) := ((Grows.rfl' w).alloc' _).step hg1
  clear him hpx hg1 HR
  by_cases hin : Inn a b c d x y
  · obtain ⟨i, hi, hil⟩ := inside_at (k := 1) HF.out (by omega) hin
    have HIN := Lib.hid hin
    have HE := Lib.hid hi
    have HX := Lib.hid (px_in (zs := zs) hin hi 0)
    have hbd := byteAt_in zs i
    clear hin hi
    go_wp2_with fail
    refine (famAt_in ib pb 0 _ _ i _ _ a b c d x y _ HI.out HP.out HIN.out (by omega) (by omega) (by omega) (by omega) HE.out hil (by omega) (by omega)).mono ?_
    rintro e w2 ⟨rfl, hg2⟩
    go_wp2_with fail
    go_ret
    exact ⟨ret_int (by rw [HX.out]; simp), HG.out.step hg2⟩
  · have HIN := Lib.hid hin
    have HX := Lib.hid (px_out (k := 1) (zs := zs) hin 0)
    clear hin
    go_wp2_with fail
    refine (famAt_out ib _ _ a b c d x y _ HI.out HIN.out).mono ?_
    rintro e w2 ⟨rfl, hg2⟩
    go_wp2_with fail
    go_ret
    exact ⟨ret_int (by rw [HX.out]), HG.out.step hg2⟩

theorem read_out (a b c d x y : Int) (v : Value) (zs : List Int) (w : World) (hf : Fine a b c d) (h : RdI w v zs) (hin : ¬ Inn a b c d x y) :
    Calls Try.prog 22 #[box4 a b c d, v, .int .i64 x, .int .i64 y] w fun e w' => e = .returned (.int .i64 0) ∧ Grows w w' :=
  (read_any a b c d x y v zs w hf h).mono fun _ _ ⟨he, hg⟩ => ⟨by rw [he]; simp only [px_out hin], hg⟩


set_option maxHeartbeats 1000000 in
theorem specRead_any (a b c d x y : Int) (v : Value) (zs : List Int) (w : World) (hf : Fine a b c d) (h : RdI w v zs) :
    Calls Try.prog 25 #[box4 a b c d, v, .int .i64 x, .int .i64 y] w fun e w' => e = .returned (.int .i64 (px a b c d 1 zs x y 0)) ∧ Grows w w' := by
  have HR := Lib.hid h
  have HF := Lib.hid hf
  have htl := total_le (k := 1) (by omega) hf
  have hsd := sd_in (k := 1) (by omega) hf
  obtain ⟨A, cc, rfl, _⟩ := h
  obtain ⟨⟨f1, f2⟩, ⟨f3, f4⟩, ⟨f5, f6⟩, ⟨f7, f8⟩⟩ := hf
  by_cases hin : Inn a b c d x y
  · obtain ⟨i, hi, hil⟩ := inside_at (k := 1) HF.out (by omega) hin
    have HIN := Lib.hid hin
    have HE := Lib.hid hi
    have HX := Lib.hid (px_in (zs := zs) hin hi 0)
    obtain ⟨i1, i2, i3, i4⟩ := hin
    clear hi
    go_enter Try.func25, Try.ntmps25
    go_wp2_with fail
    refine (specHas_yes _ _ _ _ _ _ _ HIN.out).mono ?_
    rintro e w1 ⟨rfl, hg1⟩
    have q0 : w1.cell? ⟨w.heap.size, 0, none⟩ = some (.int .i64 a) := hg1.cell_some (by simp)
    have q1 : w1.cell? ⟨w.heap.size, 1, none⟩ = some (.int .i64 b) := hg1.cell_some (by simp)
    have q2 : w1.cell? ⟨w.heap.size, 2, none⟩ = some (.int .i64 c) := hg1.cell_some (by simp)
    have q3 : w1.cell? ⟨w.heap.size, 3, none⟩ = some (.int .i64 d) := hg1.cell_some (by simp)
    have HG1 : Hid (Grows w w1) := ((Grows.rfl' w).alloc' _).step hg1
    clear hg1
    go_wp2_with fail
    refine (made_any _ _ _ _ 1 (by omega) HF.out _ zs _ (HR.out.grows HG1.out)).mono ?_
    rintro e w2 ⟨g, rfl, hge, hix, hg2⟩
    have r0 := hg2.cell_some q0
    have r1 := hg2.cell_some q1
    have r2 := hg2.cell_some q2
    have r3 := hg2.cell_some q3
    have hcell := hix.cell (i := i) (by omega)
    have HG2 := Lib.hid (HG1.out.step hg2)
    have hgl : g < w2.heap.size := hix.lt
    have hsz : w.heap.size < w2.heap.size := cell_lt r0
    clear hg2 hix q0 q1 q2 q3 HR
    have HT : Hid (byteAt zs i = px a b c d 1 zs x y 0) := HX.out.symm
    generalize byteAt zs i = u at *
    go_wp2_with fail
    apply wp_region_lex_lit 11 (by kernel_rfl) (by kernel_rfl)
    iterate 7
      apply lex_pin
      · intro wq hgq hdq Kq hKq
        obtain ⟨hcq, _⟩ := hgq.cells
        go_wp2
        exact hKq _ (Grows.rfl' _)
      · kernel_rfl
    apply lex_pin
    · intro wq hgq hdq Kq hKq
      go_wp2_with fail
      refine (place_any _ _ _ _ _ _ _ _ _ (by omega) (by omega) (by omega) (by omega) (by omega) (by omega) (by omega) (by omega)).mono ?_
      rintro e wq' ⟨rfl, hgq'⟩
      have hE : (y - b) * sd a c 1 + (x - a) * 1 = (i : Int) := HE.out
      rw [hE]
      clear hE
      go_wp2_with fail
      exact hKq _ hgq'
    · kernel_rfl
    iterate 3
      apply lex_pin
      · intro wq hgq hdq Kq hKq
        obtain ⟨hcq, _⟩ := hgq.cells
        go_wp2
        exact hKq _ (Grows.rfl' _)
      · kernel_rfl
    refine lex_end ?_
    intro w3 hg3 _
    go_wp2
    go_ret
    exact ⟨ret_int HT.out, (HG2.out.alloc' _).drew'.step hg3⟩
  · have HIN := Lib.hid hin
    have HX := Lib.hid (px_out (k := 1) (zs := zs) hin 0)
    clear hin
    go_enter Try.func25, Try.ntmps25
    go_wp2_with fail
    refine (specHas_no _ _ _ _ _ _ _ HIN.out).mono ?_
    rintro e w1 ⟨rfl, hg1⟩
    go_wp2_with fail
    go_ret
    exact ⟨ret_int HX.out.symm, ((Grows.rfl' w).alloc' _).step hg1⟩

end Go.Proofs.Ytheijicdhfpidaa

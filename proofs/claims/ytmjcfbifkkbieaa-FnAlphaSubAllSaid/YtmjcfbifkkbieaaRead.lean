/-
  Contracts of the thin package's and of the reference's AlphaRead, AlphaColor and AlphaOffset. Conditions: the rectangle is fine, the numbers read as a list.
-/
import Derived.Test.YtmjcfbifkkbieaaFamAt
import Derived.Test.YtmjcfbifkkbieaaSamePic
namespace Go.Proofs.Ytmjcfbifkkbieaa
open Go.RowKit
set_option linter.unusedVariables false

/-- The j-th number of the pixel at x, y; 0 outside. -/
def px (a b c d : Int) (k : Nat) (zs : List Int) (x y : Int) (j : Nat) : Int := if Inn a b c d x y then byteAt zs (((y - b) * sd a c k + (x - a) * k).toNat + j) else 0
theorem px_in {a b c d x y : Int} {k : Nat} {zs : List Int} {i : Nat} (h : Inn a b c d x y) (hi : (y - b) * sd a c k + (x - a) * k = (i : Int)) (j : Nat) : px a b c d k zs x y j = byteAt zs (i + j) := by
  unfold px
  rw [if_pos h, hi]
  rfl
theorem px_out {a b c d x y : Int} {k : Nat} {zs : List Int} (h : ¬ Inn a b c d x y) (j : Nat) : px a b c d k zs x y j = 0 := if_neg h
theorem px_bd (a b c d x y : Int) (k : Nat) (zs : List Int) (j : Nat) : 0 ≤ px a b c d k zs x y j ∧ px a b c d k zs x y j ≤ 255 := by
  unfold px
  split
  · exact byteAt_in _ _
  · omega

theorem field_alpha (n : Int) (w : World) : (Instr.field 55 (.agg #[.int .u8 n]) 0).run Try.prog w = .ok (.int .u8 n) w := by kernel_rfl

set_option maxHeartbeats 1000000 in
theorem read_any (a b c d x y : Int) (v : Value) (zs : List Int) (w : World) (hf : Fine a b c d) (h : RdI w v zs) :
    Calls Try.prog 13 #[box4 a b c d, v, .int .i64 x, .int .i64 y] w fun e w' => e = .returned (.int .i64 (px a b c d 1 zs x y 0)) ∧ Grows w w' := by
  have HR := Lib.hid h
  have HF := Lib.hid hf
  have htl := total_le (k := 1) (by omega) hf
  have hsd := sd_in (k := 1) (by omega) hf
  obtain ⟨A, cc, rfl, _⟩ := h
  obtain ⟨⟨f1, f2⟩, ⟨f3, f4⟩, ⟨f5, f6⟩, ⟨f7, f8⟩⟩ := hf
  have hfl := field_alpha
  go_enter Try.func13, Try.ntmps13
  go_wp2_with fail
  refine (mk_any _ _ _ _ _ zs _ HF.out (HR.out.grows ((Grows.rfl' w).alloc' _))).mono ?_
  rintro e w1 ⟨ib, pb, rfl, hib, hpb, him, hpx, hg1⟩
  have HI := Lib.hid him
  have HP := Lib.hid hpx
  have HG : Hid (Grows w w1) := ((Grows.rfl' w).alloc' _).step hg1
  clear him hpx hg1 HR
  by_cases hin : Inn a b c d x y
  · obtain ⟨i, hi, hil⟩ := inside_at (k := 1) HF.out (by omega) hin
    have HIN := Lib.hid hin
    have HE := Lib.hid hi
    have HX := Lib.hid (px_in (zs := zs) hin hi 0)
    have hbd := byteAt_in zs i
    clear hin hi
    go_wp2_with fail
    refine (famAt_in ib pb 0 _ _ i _ _ a b c d x y _ HI.out HP.out HIN.out (by omega) (by omega) (by omega) (by omega) HE.out hil (by omega) (by omega)).mono ?_
    rintro e w2 ⟨rfl, hg2⟩
    go_wp2_with fail
    go_ret
    exact ⟨ret_int (by rw [HX.out]; simp), HG.out.step hg2⟩
  · have HIN := Lib.hid hin
    have HX := Lib.hid (px_out (k := 1) (zs := zs) hin 0)
    clear hin
    go_wp2_with fail
    refine (famAt_out ib _ _ a b c d x y _ HI.out HIN.out).mono ?_
    rintro e w2 ⟨rfl, hg2⟩
    go_wp2_with fail
    go_ret
    exact ⟨ret_int (by rw [HX.out]), HG.out.step hg2⟩

theorem read_out (a b c d x y : Int) (v : Value) (zs : List Int) (w : World) (hf : Fine a b c d) (h : RdI w v zs) (hin : ¬ Inn a b c d x y) :
    Calls Try.prog 13 #[box4 a b c d, v, .int .i64 x, .int .i64 y] w fun e w' => e = .returned (.int .i64 0) ∧ Grows w w' :=
  (read_any a b c d x y v zs w hf h).mono fun _ _ ⟨he, hg⟩ => ⟨by rw [he]; simp only [px_out hin], hg⟩



end Go.Proofs.Ytmjcfbifkkbieaa

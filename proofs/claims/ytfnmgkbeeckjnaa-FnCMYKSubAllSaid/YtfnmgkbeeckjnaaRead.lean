/-
  Contracts of the thin package's and of the reference's CMYKRead, CMYKColor and CMYKOffset. Conditions: the rectangle is fine, the numbers read as a list.
-/
import Derived.Test.YtfnmgkbeeckjnaaFamAt
import Derived.Test.YtfnmgkbeeckjnaaSamePic
namespace Go.Proofs.Ytfnmgkbeeckjnaa
open Go.RowKit
set_option linter.unusedVariables false

/-- The j-th number of the pixel at x, y; 0 outside. -/
def px (a b c d : Int) (k : Nat) (zs : List Int) (x y : Int) (j : Nat) : Int := if Inn a b c d x y then byteAt zs (((y - b) * sd a c k + (x - a) * k).toNat + j) else 0
theorem px_in {a b c d x y : Int} {k : Nat} {zs : List Int} {i : Nat} (h : Inn a b c d x y) (hi : (y - b) * sd a c k + (x - a) * k = (i : Int)) (j : Nat) : px a b c d k zs x y j = byteAt zs (i + j) := by
  unfold px
  rw [if_pos h, hi]
  rfl
theorem px_out {a b c d x y : Int} {k : Nat} {zs : List Int} (h : ¬ Inn a b c d x y) (j : Nat) : px a b c d k zs x y j = 0 := if_neg h
theorem px_bd (a b c d x y : Int) (k : Nat) (zs : List Int) (j : Nat) : 0 ≤ px a b c d k zs x y j ∧ px a b c d k zs x y j ≤ 255 := by
  unfold px
  split
  · exact byteAt_in _ _
  · omega

set_option maxHeartbeats 1000000 in
theorem from_any (p q r s : Int) (w : World) (hp : 0 ≤ p ∧ p ≤ 255) (hq : 0 ≤ q ∧ q ≤ 255) (hr : 0 ≤ r ∧ r ≤ 255) (hs : 0 ≤ s ∧ s ≤ 255) :
    Calls Try.prog 40 #[.agg #[.int .u8 p, .int .u8 q, .int .u8 r, .int .u8 s]] w fun e w' => e = .returned (.agg #[.int .i64 p, .int .i64 q, .int .i64 r, .int .i64 s]) ∧ Grows w w' := by
  go_enter Try.func40, Try.ntmps40
  go_wp2
  exact bodyPost_ret (v := .agg #[.int .i64 p, .int .i64 q, .int .i64 r, .int .i64 s]) (by simp [results, Try.results40, go_sem]) rfl ⟨rfl, ((Grows.rfl' _).alloc' _).alloc' _⟩

theorem px4_in {a b c d x y : Int} {zs : List Int} {i : Nat} (h : Inn a b c d x y) (hi : (y - b) * sd a c 4 + (x - a) * 4 = (i : Int)) :
    (.agg #[.int .i64 (byteAt zs i), .int .i64 (byteAt zs (i + 1)), .int .i64 (byteAt zs (i + 2)), .int .i64 (byteAt zs (i + 3))] : Value) = (.agg #[.int .i64 (px a b c d 4 zs x y 0), .int .i64 (px a b c d 4 zs x y 1), .int .i64 (px a b c d 4 zs x y 2), .int .i64 (px a b c d 4 zs x y 3)]) := by
  rw [px_in (zs := zs) h hi 0, px_in (zs := zs) h hi 1, px_in (zs := zs) h hi 2, px_in (zs := zs) h hi 3]
  rfl
theorem px4_out {a b c d x y : Int} {zs : List Int} (h : ¬ Inn a b c d x y) : ((.agg #[.int .i64 0, .int .i64 0, .int .i64 0, .int .i64 0]) : Value) = (.agg #[.int .i64 (px a b c d 4 zs x y 0), .int .i64 (px a b c d 4 zs x y 1), .int .i64 (px a b c d 4 zs x y 2), .int .i64 (px a b c d 4 zs x y 3)]) := by
  simp only [px_out h]

set_option maxHeartbeats 1000000 in
theorem read_any (a b c d x y : Int) (v : Value) (zs : List Int) (w : World) (hf : Fine a b c d) (h : RdI w v zs) :
    Calls Try.prog 28 #[box4 a b c d, v, .int .i64 x, .int .i64 y] w fun e w' => e = .returned (.agg #[.int .i64 (px a b c d 4 zs x y 0), .int .i64 (px a b c d 4 zs x y 1), .int .i64 (px a b c d 4 zs x y 2), .int .i64 (px a b c d 4 zs x y 3)]) ∧ Grows w w' := by
  have HR := Lib.hid h
  have HF := Lib.hid hf
  have htl := total_le (k := 4) (by omega) hf
  have hsd := sd_in (k := 4) (by omega) hf
  obtain ⟨A, cc, rfl, _⟩ := h
  obtain ⟨⟨f1, f2⟩, ⟨f3, f4⟩, ⟨f5, f6⟩, ⟨f7, f8⟩⟩ := hf
  go_enter Try.func28, Try.ntmps28
  go_wp2_with fail
  refine (mk_any _ _ _ _ _ zs _ HF.out (HR.out.grows (((Grows.rfl' w).alloc' _).alloc' _))).mono ?_
  rintro e w1 ⟨ib, pb, rfl, hib, hpb, him, hpx, hg1⟩
  have HI := Lib.hid him
  have HP := Lib.hid hpx
  have HG : Hid (Grows w w1) := (((Grows.rfl' w).alloc' _).alloc' _).step hg1
  have HGB := Lib.hid hg1
  clear him hpx hg1 HR
  by_cases hin : Inn a b c d x y
  · obtain ⟨i, hi, hil⟩ := inside_at (k := 4) HF.out (by omega) hin
    have HIN := Lib.hid hin
    have HE := Lib.hid hi
    have HX := Lib.hid (px4_in (zs := zs) hin hi)
    have b0 := byteAt_in zs i
    have b1 := byteAt_in zs (i + 1)
    have b2 := byteAt_in zs (i + 2)
    have b3 := byteAt_in zs (i + 3)
    clear hin hi
    have HA := Lib.hid (famAt_in ib pb 0 _ _ i _ _ a b c d x y _ HI.out HP.out HIN.out (by omega) (by omega) (by omega) (by omega) HE.out hil (by omega) (by omega))
    simp only [Nat.zero_add] at HA
    generalize byteAt zs i = u0 at *
    generalize byteAt zs (i + 1) = u1 at *
    generalize byteAt zs (i + 2) = u2 at *
    generalize byteAt zs (i + 3) = u3 at *
    go_wp2_with fail
    refine (HA.out).mono ?_
    rintro e w2 ⟨rfl, hg2⟩
    have HGB2 := Lib.hid (HGB.out.step hg2)
    have HG2 := Lib.hid (HG.out.step hg2)
    clear hg2
    go_wp2_with fail
    refine (from_any _ _ _ _ _ b0 b1 b2 b3).mono ?_
    rintro e w3 ⟨rfl, hg3⟩
    have hgb := HGB2.out.step hg3
    obtain ⟨hcq, hfq⟩ := hgb.cells
    have HG3 := Lib.hid (HG2.out.step hg3)
    clear hg3 hgb HGB2 HGB HA
    go_wp2_with fail
    refine bodyPost_ret (v := .agg #[.int .i64 u0, .int .i64 u1, .int .i64 u2, .int .i64 u3]) (by simp [results, Try.results28, go_sem, hcq]) rfl ⟨ret_val HX.out, ?_⟩
    iterate 4 refine Grows.set' ?_ (by simp) _
    exact HG3.out
  · have HIN := Lib.hid hin
    have HX := Lib.hid (px4_out (zs := zs) hin)
    clear hin
    go_wp2_with fail
    refine ((famAt_out ib _ _ a b c d x y _ HI.out HIN.out)).mono ?_
    rintro e w2 ⟨rfl, hg2⟩
    have HGB2 := Lib.hid (HGB.out.step hg2)
    have HG2 := Lib.hid (HG.out.step hg2)
    clear hg2
    go_wp2_with fail
    refine (from_any _ _ _ _ _ (by omega) (by omega) (by omega) (by omega)).mono ?_
    rintro e w3 ⟨rfl, hg3⟩
    have hgb := HGB2.out.step hg3
    obtain ⟨hcq, hfq⟩ := hgb.cells
    have HG3 := Lib.hid (HG2.out.step hg3)
    clear hg3 hgb HGB2 HGB
    go_wp2_with fail
    refine bodyPost_ret (v := (.agg #[.int .i64 0, .int .i64 0, .int .i64 0, .int .i64 0])) (by simp [results, Try.results28, go_sem, hcq]) rfl ⟨ret_val HX.out, ?_⟩
    iterate 4 refine Grows.set' ?_ (by simp) _
    exact HG3.out

theorem read_out (a b c d x y : Int) (v : Value) (zs : List Int) (w : World) (hf : Fine a b c d) (h : RdI w v zs) (hin : ¬ Inn a b c d x y) :
    Calls Try.prog 28 #[box4 a b c d, v, .int .i64 x, .int .i64 y] w fun e w' => e = .returned (.agg #[.int .i64 0, .int .i64 0, .int .i64 0, .int .i64 0]) ∧ Grows w w' :=
  (read_any a b c d x y v zs w hf h).mono fun _ _ ⟨he, hg⟩ => ⟨by rw [he]; simp only [px_out hin], hg⟩




end Go.Proofs.Ytfnmgkbeeckjnaa

/-
  Contracts of the thin package's and of the reference's CMYKOffset at points of the rectangle. Conditions: the rectangle is fine, the point is inside.
-/
import Derived.Test.YtkcjfcapponhpaaFamAt
import Derived.Test.YtkcjfcapponhpaaSamePic
namespace Go.Proofs.Ytkcjfcapponhpaa
open Go.RowKit
set_option linter.unusedVariables false

set_option maxHeartbeats 1000000 in
theorem offset_in (a b c d x y : Int) (i : Nat) (w : World) (hf : Fine a b c d) (hin : Inn a b c d x y) (hi : (y - b) * sd a c 4 + (x - a) * 4 = (i : Int)) :
    Calls Try.prog 21 #[box4 a b c d, .int .i64 x, .int .i64 y] w fun e w' => e = .returned (.int .i64 i) ∧ Grows w w' := by
  have HF := Lib.hid hf
  have HE := Lib.hid hi
  have hsd := sd_in (k := 4) (by omega) hf
  obtain ⟨⟨f1, f2⟩, ⟨f3, f4⟩, ⟨f5, f6⟩, ⟨f7, f8⟩⟩ := hf
  obtain ⟨i1, i2, i3, i4⟩ := hin
  clear hi
  go_enter Try.func21, Try.ntmps21
  go_wp2_with fail
  refine (mk_any _ _ _ _ _ [] _ HF.out Rd.nil).mono ?_
  rintro e w1 ⟨ib, pb, rfl, hib, hpb, him, hpx, hg1⟩
  have HI := Lib.hid him
  have HG : Hid (Grows w w1) := ((Grows.rfl' w).alloc' _).step hg1
  clear him hpx hg1
  go_wp2_with fail
  refine (pixOffset_in ib i _ _ a b c d x y _ HI.out (by omega) (by omega) (by omega) (by omega) (by omega) (by omega) HE.out).mono ?_
  rintro e w2 ⟨rfl, hg2⟩
  go_wp2_with fail
  go_ret
  exact ⟨rfl, HG.out.step hg2⟩

set_option maxHeartbeats 1000000 in
theorem specOffset_in (a b c d x y : Int) (i : Nat) (w : World) (hf : Fine a b c d) (hin : Inn a b c d x y) (hi : (y - b) * sd a c 4 + (x - a) * 4 = (i : Int)) :
    Calls Try.prog 22 #[box4 a b c d, .int .i64 x, .int .i64 y] w fun e w' => e = .returned (.int .i64 i) ∧ Grows w w' := by
  have hsd := sd_in (k := 4) (by omega) hf
  have HE : Hid ((y - b) * ((c - a) * 4) + (x - a) * 4 = (i : Int)) := by
    unfold Hid
    rw [← hi]
    unfold sd
    simp
  obtain ⟨⟨f1, f2⟩, ⟨f3, f4⟩, ⟨f5, f6⟩, ⟨f7, f8⟩⟩ := hf
  obtain ⟨i1, i2, i3, i4⟩ := hin
  clear hi
  go_enter Try.func22, Try.ntmps22
  go_wp2_with fail
  refine (place_any _ _ _ _ _ _ _ _ _ (by omega) (by omega) (by omega) (by omega) (by omega) (by omega) (by omega) (by omega)).mono ?_
  rintro e w1 ⟨rfl, hg1⟩
  rw [HE.out]
  go_wp2_with fail
  go_ret
  exact ⟨rfl, ((Grows.rfl' w).alloc' _).step hg1⟩
end Go.Proofs.Ytkcjfcapponhpaa

/-
  Contracts of image.CMYK's Opaque, of the thin package's and of the reference's CMYKOpaque: they return true. Conditions: the rectangle is fine, the numbers read as a list.
-/
import Derived.Test.YtchpneinjndlpaaNew
import Derived.Test.YtchpneinjndlpaaSamePic
namespace Go.Proofs.Ytchpneinjndlpaa
open Go.RowKit
set_option linter.unusedVariables false

set_option maxHeartbeats 1000000 in
theorem opaque_any (p : Value) (w : World) : Calls Try.prog 33 #[p] w fun e w' => e = .returned (.bool true) ∧ Grows w w' := by
  go_enter Try.func33, Try.ntmps33
  go_wp2_with fail
  go_ret
  exact ⟨rfl, Grows.rfl' _⟩

set_option maxHeartbeats 1000000 in
theorem implOpaque_any (a b c d : Int) (v : Value) (zs : List Int) (w : World) (hf : Fine a b c d) (h : RdI w v zs) :
    Calls Try.prog 18 #[box4 a b c d, v] w fun e w' => e = .returned (.bool true) ∧ Grows w w' := by
  have HR := Lib.hid h
  have HF := Lib.hid hf
  obtain ⟨A, cc, rfl, _⟩ := h
  clear hf
  go_enter Try.func18, Try.ntmps18
  go_wp2_with fail
  refine (mk_any _ _ _ _ _ zs _ HF.out (HR.out.grows ((Grows.rfl' w).alloc' _))).mono ?_
  rintro e w1 ⟨ib, pb, rfl, hib, hpb, him, hpx, hg1⟩
  have HG : Hid (Grows w w1) := ((Grows.rfl' w).alloc' _).step hg1
  clear him hpx hg1 HR
  go_wp2_with fail
  refine (opaque_any _ _).mono ?_
  rintro e w2 ⟨rfl, hg2⟩
  go_wp2_with fail
  go_ret
  exact ⟨rfl, HG.out.step hg2⟩

set_option maxHeartbeats 1000000 in
theorem specOpaque_any (a b c d : Int) (v : Value) (zs : List Int) (w : World) (hf : Fine a b c d) (h : RdI w v zs) :
    Calls Try.prog 19 #[box4 a b c d, v] w fun e w' => e = .returned (.bool true) ∧ Grows w w' := by
  obtain ⟨A, cc, rfl, _⟩ := h
  go_enter Try.func19, Try.ntmps19
  go_wp2_with fail
  go_ret
  exact ⟨rfl, by first | exact Grows.rfl' _ | exact (Grows.rfl' _).alloc' _⟩
end Go.Proofs.Ytchpneinjndlpaa

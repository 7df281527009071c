/-
  FnAlphaWideIsRGBA returns true for every number, and each argument reads afterwards as before. Conditions: none beyond the row's own.
-/
import Derived.Test.YtoiikomjbckibaaWide
import Derived.Test.YtoiikomjbckibaaLift
namespace Go.Proofs.Ytoiikomjbckibaa.lawAlphaWideIsRGBA
open Go.ChangeShapes Go.WideShapes Go.ChangeAt Go.RowKit

set_option maxHeartbeats 1000000 in
theorem walk (a : Int) (w : World) (_ : -9223372036854775808 ≤ a ∧ a ≤ 9223372036854775807) :
    Calls Try.prog 10 #[.int .i64 a] w fun e w' => e = .returned (.bool true) ∧ Grows w w' := by
  have ma := mod256 a
  go_enter Try.func10, Try.ntmps10
  go_wp2_with fail
  refine (alphaWide_any _ _).mono ?_
  rintro e w1 ⟨g1, rfl, hge1, hb1, hg1⟩
  go_wp2_with fail
  refine (rgbaWide_any _ _ _ _ _).mono ?_
  rintro e w2 ⟨g2, rfl, hge2, hb2, hg2⟩
  have r1 := (quad_reads hb1 (by omega) (by omega) (by omega) (by omega)).grows hg2
  have r2 := quad_reads hb2 (by omega) (by omega) (by omega) (by omega)
  have HR1 := Lib.hid r1
  have HR2 := Lib.hid r2
  have HG := Lib.hid (hg1.step hg2)
  clear r1 r2 hb1 hb2 hg1 hg2 hge1 hge2
  go_wp2_with fail
  refine (sameInts_any _ _ _ _ _ HR1.out HR2.out).mono ?_
  rintro e w3 ⟨rfl, hg3⟩
  have hd : decide ([a % 256 * 257, a % 256 * 257, a % 256 * 257, a % 256 * 257] = [a % 256 * 257, a % 256 * 257, a % 256 * 257, a % 256 * 257]) = true := by simp
  rw [hd]
  clear hd
  go_wp2_with fail
  go_ret
  exact ⟨rfl, HG.out.step hg3⟩

set_option linter.unusedVariables false
set_option maxRecDepth 100000 in
theorem lifted (os : Os) (started : os.Started) (H : Type) (enc : TypeId × Value → H) :
    ReturnsInHanded {} Try.checked os 10 .any (Rows.fnAlphaWideIsRGBASpec.pre6 enc Try.prog Try.f10 Rows.fnAlphaWideIsRGBARow.domain false) (Rows.fnAlphaWideIsRGBASpec.post enc Try.prog Try.f10 false true false false) := by
  refine returnsInHanded_of_change_sized (C := Try.checked) own started (by kernel_rfl) Try.func10
    (ChangeSpec.witness6 (enc := enc) (C := Try.checked) false ⟨#[], #[.int .i64 0], []⟩ 8 (by kernel_rfl) (by kernel_rfl) (by kernel_rfl) (by kernel_rfl)) ?_
  intro W base args ds gs before hval0 hW hcnd hsz0 _
  have hval : ∀ (j : Nat) t v, Try.f10.params[j]? = some t → args[j]? = some v → Value.okWide Try.prog W .any base t v := hval0
  have hsz : (DataW.weightsEach Try.prog (Try.f10.params.toList ++ Rows.fnAlphaWideIsRGBASpec.plain.varTypes Try.prog) (ds ++ gs)).all (· ≤ reachBytes) = true := hsz0
  clear hsz0
  have hW' := hW
  obtain ⟨p, q, hA0, hV, rfl, hfz, hnd⟩ := hW
  have hA : DataW.TrodAll enc Try.prog W 0 (fun _ => true) true Try.f10.params.toList args.toList ds p := hA0
  rw [Try.params10] at hA hval hsz
  obtain ⟨v0, vs0, d0, ds0, p0, q0, hargs, rfl, rfl, h0, r0⟩ := trodAll_cons hA
  obtain ⟨rfl, rfl, rfl⟩ := trodAll_nil r0
  obtain rfl : args = #[v0] := by cases args; simp_all
  obtain ⟨rfl, rfl⟩ := trodVars_none hV
  have k0 := h0
  have lt0 : ∀ x ∈ p0, x.block < W.heap.size := by obtain ⟨m, hm⟩ := k0; exact DataW.trod_lt m _ _ _ hm
  obtain ⟨x0, rfl, he0, _, w0⟩ := open_int Try.underlying3 (hval 0 3 v0 rfl rfl) h0
  refine (walk x0 W (bounds_i64 w0)).mono fun e W' ⟨he, bel⟩ => ?_
  subst he
  exact ⟨_, rfl, _, _, _, [], _, [], hW', trodAll_mk1 (shut_bool Try.underlying4 _), (trodAll_cons_mk (Below.trod laidOut (by kernel_rfl) (of_decide_eq_true (by kernel_rfl)) k0 bel lt0) trodAll_mk0), rfl, bel.frame _, fun h => by cases h⟩

theorem proved : Rows.FnAlphaWideIsRGBASaid :=
  OpenClaim.holds_of_wide 10 Try.f10 rfl rfl rfl rfl rfl rfl rfl ⟨rfl, rfl, rfl, rfl, rfl⟩ rfl rfl rfl rfl rfl (by kernel_rfl) Try.func10 (by kernel_rfl)
    (of_decide_eq_true (by kernel_rfl)) (by unfold Func.isWrapper; first | (rw [if_pos (by decide +kernel)]; kernel_rfl) | (rw [if_neg (by decide +kernel)]; exact ⟨rfl, rfl⟩))
    (fun os started H enc _ => lifted os started H enc)
#print axioms proved
end Go.Proofs.Ytoiikomjbckibaa.lawAlphaWideIsRGBA

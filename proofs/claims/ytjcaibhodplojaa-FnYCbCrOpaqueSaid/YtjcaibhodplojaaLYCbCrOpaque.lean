/-
  FnYCbCrOpaque returns true for every input, and each argument reads afterwards as before. Conditions: none beyond the row's own.
-/
import Derived.Test.YtjcaibhodplojaaYImp
import Derived.Test.YtjcaibhodplojaaLift
namespace Go.Proofs.Ytjcaibhodplojaa.lawYCbCrOpaque
open Go.ChangeShapes Go.WideShapes Go.ChangeAt Go.RowKit
set_option linter.unusedVariables false

set_option maxHeartbeats 2000000 in
theorem walk (a b c d r : Int) (w : World) (ha : I64 a) (hb : I64 b) (hc : I64 c) (hd : I64 d) (hr : I64 r) :
    Calls Try.prog 5 #[box4 a b c d, .int .i64 r] w fun e w' => e = .returned (.bool true) ∧ Grows w w' := by
  by_cases hp : PlainY a b c d r
  · have HP := Lib.hid hp
    clear hp
    go_enter Try.func5, Try.ntmps5
    go_wp2_with fail
    refine (plainY_yes _ _ _ _ _ _ HP.out).mono ?_
    rintro e w1 ⟨rfl, hg1⟩
    have q0 : w1.cell? ⟨w.heap.size, 0, none⟩ = some (.int .i64 a) := hg1.cell_some (by simp)
    have q1 : w1.cell? ⟨w.heap.size, 1, none⟩ = some (.int .i64 b) := hg1.cell_some (by simp)
    have q2 : w1.cell? ⟨w.heap.size, 2, none⟩ = some (.int .i64 c) := hg1.cell_some (by simp)
    have q3 : w1.cell? ⟨w.heap.size, 3, none⟩ = some (.int .i64 d) := hg1.cell_some (by simp)
    have HG : Hid (Grows w w1) := ((Grows.rfl' w).alloc' _).step hg1
    clear hg1
    go_wp2_with fail
    refine (asRect_any _ _ _ _ _).mono ?_
    rintro e w2 ⟨rfl, hg2⟩
    replace HG := Lib.hid (HG.out.step hg2)
    clear hg2 q0 q1 q2 q3
    go_wp2_with fail
    refine (implOpqY_any _ _ _ _ _ _ HP.out).mono ?_
    rintro e w3 ⟨rfl, hg3⟩
    go_wp2_with fail
    go_ret
    exact ⟨rfl, HG.out.step hg3⟩
  · have HP := Lib.hid hp
    clear hp
    go_enter Try.func5, Try.ntmps5
    go_wp2_with fail
    refine (plainY_no _ _ _ _ _ _ HP.out ha hb).mono ?_
    rintro e w1 ⟨rfl, hg1⟩
    go_wp2_with fail
    go_ret
    exact ⟨rfl, ((Grows.rfl' w).alloc' _).step hg1⟩

set_option linter.unusedVariables false
set_option maxRecDepth 100000 in
theorem lifted (os : Os) (started : os.Started) (H : Type) (enc : TypeId × Value → H) :
    ReturnsInHanded {} Try.checked os 5 .any (Rows.fnYCbCrOpaqueSpec.pre6 enc Try.prog Try.f5 Rows.fnYCbCrOpaqueRow.domain false) (Rows.fnYCbCrOpaqueSpec.post enc Try.prog Try.f5 false true false false) := by
  refine returnsInHanded_of_change_sized (C := Try.checked) own started (by kernel_rfl) Try.func5
    (ChangeSpec.witness6 (enc := enc) (C := Try.checked) false ⟨#[], #[.agg #[.int .i64 0, .int .i64 0, .int .i64 0, .int .i64 0], .int .i64 0], []⟩ 8 (by kernel_rfl) (by kernel_rfl) (by kernel_rfl) (by kernel_rfl)) ?_
  intro W base args ds gs before hval0 hW hcnd hsz0 _
  have hval : ∀ (j : Nat) t v, Try.f5.params[j]? = some t → args[j]? = some v → Value.okWide Try.prog W .any base t v := hval0
  have hsz : (DataW.weightsEach Try.prog (Try.f5.params.toList ++ Rows.fnYCbCrOpaqueSpec.plain.varTypes Try.prog) (ds ++ gs)).all (· ≤ reachBytes) = true := hsz0
  clear hsz0
  have hW' := hW
  obtain ⟨p, q, hA0, hV, rfl, hfz, hnd⟩ := hW
  have hA : DataW.TrodAll enc Try.prog W 0 (fun _ => true) true Try.f5.params.toList args.toList ds p := hA0
  rw [Try.params5] at hA hval hsz
  obtain ⟨v0, vs0, d0, ds0, p0, q0, hargs, rfl, rfl, h0, r0⟩ := trodAll_cons hA
  obtain ⟨v1, vs1, d1, ds1, p1, q1, rfl, rfl, rfl, h1, r1⟩ := trodAll_cons r0
  obtain ⟨rfl, rfl, rfl⟩ := trodAll_nil r1
  obtain rfl : args = #[v0, v1] := by cases args; simp_all
  obtain ⟨rfl, rfl⟩ := trodVars_none hV
  have k0 := h0
  have lt0 : ∀ x ∈ p0, x.block < W.heap.size := by obtain ⟨m, hm⟩ := k0; exact DataW.trod_lt m _ _ _ hm
  have k1 := h1
  have lt1 : ∀ x ∈ p1, x.block < W.heap.size := by obtain ⟨m, hm⟩ := k1; exact DataW.trod_lt m _ _ _ hm
  obtain ⟨s0a, s0b, s0c, s0d, rfl, ⟨b0a, b0b, b0c, b0d⟩⟩ := open_four Try.underlying23 (by kernel_rfl) cells23 (hval 0 23 v0 rfl rfl) h0
  obtain ⟨x1, rfl, he1, _, w1⟩ := open_int Try.underlying3 (hval 1 3 v1 rfl rfl) h1
  refine (walk s0a s0b s0c s0d x1 W b0a b0b b0c b0d (bounds_i64 w1)).mono fun e W' ⟨he, bel⟩ => ?_
  subst he
  exact ⟨_, rfl, _, _, _, [], _, [], hW', trodAll_mk1 (shut_bool Try.underlying4 _), (trodAll_cons_mk (Below.trod laidOut (by kernel_rfl) (of_decide_eq_true (by kernel_rfl)) k0 bel lt0) (trodAll_cons_mk (Below.trod laidOut (by kernel_rfl) (of_decide_eq_true (by kernel_rfl)) k1 bel lt1) trodAll_mk0)), rfl, bel.frame _, fun h => by cases h⟩

theorem proved : Rows.FnYCbCrOpaqueSaid :=
  OpenClaim.holds_of_wide 5 Try.f5 rfl rfl rfl rfl rfl rfl rfl ⟨rfl, rfl, rfl, rfl, rfl⟩ rfl rfl rfl rfl rfl (by kernel_rfl) Try.func5 (by kernel_rfl)
    (of_decide_eq_true (by kernel_rfl)) (by unfold Func.isWrapper; first | (rw [if_pos (by decide +kernel)]; kernel_rfl) | (rw [if_neg (by decide +kernel)]; exact ⟨rfl, rfl⟩))
    (fun os started H enc _ => lifted os started H enc)
#print axioms proved
end Go.Proofs.Ytjcaibhodplojaa.lawYCbCrOpaque

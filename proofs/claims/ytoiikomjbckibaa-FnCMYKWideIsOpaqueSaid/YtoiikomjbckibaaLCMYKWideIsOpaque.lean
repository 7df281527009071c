/-
  FnCMYKWideIsOpaque returns true for every color, and each argument reads afterwards as before. Conditions: none beyond the row's own.
-/
import Derived.Test.YtoiikomjbckibaaWide
import Derived.Test.YtoiikomjbckibaaLift
namespace Go.Proofs.Ytoiikomjbckibaa.lawCMYKWideIsOpaque
open Go.ChangeShapes Go.WideShapes Go.ChangeAt Go.RowKit

set_option maxHeartbeats 400000 in
theorem walk (a b c d : Int) (w : World) (_ : -9223372036854775808 ≤ a ∧ a ≤ 9223372036854775807) (_ : -9223372036854775808 ≤ b ∧ b ≤ 9223372036854775807) (_ : -9223372036854775808 ≤ c ∧ c ≤ 9223372036854775807) (_ : -9223372036854775808 ≤ d ∧ d ≤ 9223372036854775807) :
    Calls Try.prog 4 #[.agg #[.int .i64 a, .int .i64 b, .int .i64 c, .int .i64 d]] w fun e w' => e = .returned (.bool true) ∧ Grows w w' := by
  go_enter Try.func4, Try.ntmps4
  go_wp2_with fail
  refine (asColor_any _ _ _ _ _).mono ?_
  rintro e w1 ⟨rfl, hg1⟩
  go_wp2_with fail
  refine (cmykWide_any _ _ _ _ _).mono ?_
  rintro e w2 ⟨g, rfl, hge, hb, hg2⟩
  have HC : ∀ k : Nat, k < 4 → ∃ n : Int, w2.cell? ⟨g, k, none⟩ = some (.int .i64 n) ∧ 0 ≤ n ∧ n ≤ 65535 := by
    intro k hk
    have i1 := inkIn a d
    have i2 := inkIn b d
    have i3 := inkIn c d
    unfold World.cell?
    rw [hb]
    rcases k with _ | _ | _ | _ | k
    · exact ⟨ink a d, rfl, by unfold ink; omega, by unfold ink; omega⟩
    · exact ⟨ink b d, rfl, by unfold ink; omega, by unfold ink; omega⟩
    · exact ⟨ink c d, rfl, by unfold ink; omega, by unfold ink; omega⟩
    · exact ⟨65535, rfl, by omega, by omega⟩
    · omega
  have HH := Lib.hid HC
  clear HC
  have hc3 : w2.cell? ⟨g, 3, none⟩ = some (.int .i64 65535) := by unfold World.cell?; rw [hb]; rfl
  have HG : Hid (Grows w w2) := ((Grows.rfl' w).alloc' _).step (hg1.step hg2)
  clear hb hg1 hg2 hge
  go_wp2
  go_loop [5, 20] (fun _ i => ∃ k : Nat, k ≤ 4 ∧ i = .int .i64 k) (fun _ i => 4 - (intOf i).toNat)
  case atStart => exact ⟨0, by omega, rfl⟩
  case round =>
    obtain ⟨k, hk, rfl⟩ := hrel
    by_cases hlt : k < 4
    · obtain ⟨n, hn, h0, h1⟩ := HH.out k hlt
      go_wp2
      go_round
      case rel => exact ⟨k + 1, by omega, by go_num⟩
      case measure => simp [intOf]; omega
    · go_wp2
      go_ret
      exact ⟨rfl, HG.out⟩

set_option linter.unusedVariables false
set_option maxRecDepth 100000 in
theorem lifted (os : Os) (started : os.Started) (H : Type) (enc : TypeId × Value → H) :
    ReturnsInHanded {} Try.checked os 4 .any (Rows.fnCMYKWideIsOpaqueSpec.pre6 enc Try.prog Try.f4 Rows.fnCMYKWideIsOpaqueRow.domain false) (Rows.fnCMYKWideIsOpaqueSpec.post enc Try.prog Try.f4 false true false false) := by
  refine returnsInHanded_of_change_sized (C := Try.checked) own started (by kernel_rfl) Try.func4
    (ChangeSpec.witness6 (enc := enc) (C := Try.checked) false ⟨#[], #[.agg #[.int .i64 0, .int .i64 0, .int .i64 0, .int .i64 0]], []⟩ 8 (by kernel_rfl) (by kernel_rfl) (by kernel_rfl) (by kernel_rfl)) ?_
  intro W base args ds gs before hval0 hW hcnd hsz0 _
  have hval : ∀ (j : Nat) t v, Try.f4.params[j]? = some t → args[j]? = some v → Value.okWide Try.prog W .any base t v := hval0
  have hsz : (DataW.weightsEach Try.prog (Try.f4.params.toList ++ Rows.fnCMYKWideIsOpaqueSpec.plain.varTypes Try.prog) (ds ++ gs)).all (· ≤ reachBytes) = true := hsz0
  clear hsz0
  have hW' := hW
  obtain ⟨p, q, hA0, hV, rfl, hfz, hnd⟩ := hW
  have hA : DataW.TrodAll enc Try.prog W 0 (fun _ => true) true Try.f4.params.toList args.toList ds p := hA0
  rw [Try.params4] at hA hval hsz
  obtain ⟨v0, vs0, d0, ds0, p0, q0, hargs, rfl, rfl, h0, r0⟩ := trodAll_cons hA
  obtain ⟨rfl, rfl, rfl⟩ := trodAll_nil r0
  obtain rfl : args = #[v0] := by cases args; simp_all
  obtain ⟨rfl, rfl⟩ := trodVars_none hV
  have k0 := h0
  have lt0 : ∀ x ∈ p0, x.block < W.heap.size := by obtain ⟨m, hm⟩ := k0; exact DataW.trod_lt m _ _ _ hm
  obtain ⟨s0a, s0b, s0c, s0d, rfl, ⟨b0a, b0b, b0c, b0d⟩⟩ := open_four Try.underlying28 (by kernel_rfl) cells28 (hval 0 28 v0 rfl rfl) h0
  refine (walk s0a s0b s0c s0d W b0a b0b b0c b0d).mono fun e W' ⟨he, bel⟩ => ?_
  subst he
  exact ⟨_, rfl, _, _, _, [], _, [], hW', trodAll_mk1 (shut_bool Try.underlying4 _), (trodAll_cons_mk (Below.trod laidOut (by kernel_rfl) (of_decide_eq_true (by kernel_rfl)) k0 bel lt0) trodAll_mk0), rfl, bel.frame _, fun h => by cases h⟩

theorem proved : Rows.FnCMYKWideIsOpaqueSaid :=
  OpenClaim.holds_of_wide 4 Try.f4 rfl rfl rfl rfl rfl rfl rfl ⟨rfl, rfl, rfl, rfl, rfl⟩ rfl rfl rfl rfl rfl (by kernel_rfl) Try.func4 (by kernel_rfl)
    (of_decide_eq_true (by kernel_rfl)) (by unfold Func.isWrapper; first | (rw [if_pos (by decide +kernel)]; kernel_rfl) | (rw [if_neg (by decide +kernel)]; exact ⟨rfl, rfl⟩))
    (fun os started H enc _ => lifted os started H enc)
#print axioms proved
end Go.Proofs.Ytoiikomjbckibaa.lawCMYKWideIsOpaque

/-
  FnYCbCrNew returns true for every input, and each argument reads afterwards as before. Conditions: none beyond the row's own.
-/
import Derived.Test.YtjcaibhodplojaaYSame
import Derived.Test.YtjcaibhodplojaaLift
namespace Go.Proofs.Ytjcaibhodplojaa.lawYCbCrNew
open Go.ChangeShapes Go.WideShapes Go.ChangeAt Go.RowKit
set_option linter.unusedVariables false

/-- What both leave. -/
abbrev Both (a b c d r : Int) : Value → World → Prop := RdPl a b c d (c - a) (acr a c (hsp r)) r (bytesOf (nY a b c d) fun _ => 0) (bytesOf (nC a b c d r) fun _ => 0) (bytesOf (nC a b c d r) fun _ => 0)

theorem impl_r (a b c d r : Int) (w : World) (h : PlainY a b c d r) : Calls Try.prog 12 #[box4 a b c d, .int .i64 r] w fun e w' => ∃ v, e = .returned v ∧ Grows w w' ∧ Both a b c d r v w' := by
  have h0 := h.nY_eq.2
  have h1 := h.nC_eq.2
  refine (implNewY_any a b c d r w h).mono ?_
  rintro e w' ⟨v, rfl, hv⟩
  have hg : Grows w w' := by obtain ⟨_, _, _, _, ho, _⟩ := hv; exact ho.2
  exact ⟨v, rfl, hg, hv.rd (by rw [bytesOf_length]; omega) (by rw [bytesOf_length]; omega) (by rw [bytesOf_length]; omega) (bytesOf_in fun _ _ => by omega) (bytesOf_in fun _ _ => by omega) (bytesOf_in fun _ _ => by omega)⟩

set_option maxHeartbeats 4000000 in
theorem walk (a b c d r : Int) (w : World) (ha : I64 a) (hb : I64 b) (hc : I64 c) (hd : I64 d) (hr : I64 r) :
    Calls Try.prog 3 #[box4 a b c d, .int .i64 r] w fun e w' => e = .returned (.bool true) ∧ Grows w w' := by
  go_enter Try.func3, Try.ntmps3
  go_wp2_with fail
  by_cases hp : PlainY a b c d r
  · have HP := Lib.hid hp
    clear hp
    apply wp_region_lex_lit 16 (by kernel_rfl) (by kernel_rfl)
    iterate 8
      apply lex_pin
      · intro wq hgq hdq Kq hKq
        obtain ⟨hcq, _⟩ := hgq.cells
        go_wp2_with ((first | (go_at_call 10; refine (plainY_yes _ _ _ _ _ _ HP.out).mono ?_) | (go_at_call 13; refine (asRect_any _ _ _ _ _).mono ?_)); rintro e wq' ⟨rfl, hgq'⟩)
        first | exact hKq _ (Grows.rfl' _) | exact hKq _ hgq'
      · kernel_rfl
    apply lex_any (Both a b c d r) (RdPl.keep)
    · intro wq hgq hdq Kq hKq
      go_wp2_with fail
      refine (impl_r _ _ _ _ _ _ HP.out).mono ?_
      rintro e wq' ⟨v, rfl, hgq', hh⟩
      go_wp2_with fail
      exact hKq _ _ hgq' hh
    intro va
    simp only [Act.put, List.setIfInBounds_toArray, List.set_cons_succ, List.set_cons_zero]
    iterate 3
      apply lex_pinv
      · intro wq hgq hdq Kq hKq
        obtain ⟨hcq, _⟩ := hgq.cells
        go_wp2_with ((go_at_call 13; refine (asRect_any _ _ _ _ _).mono ?_); rintro e wq' ⟨rfl, hgq'⟩)
        first | exact hKq _ (Grows.rfl' _) | exact hKq _ hgq'
      simp only [Act.put, List.setIfInBounds_toArray, List.set_cons_succ, List.set_cons_zero]
    apply lex_any (Both a b c d r) (RdPl.keep)
    · intro wq hgq hdq Kq hKq
      go_wp2_with fail
      refine (specNewY_any _ _ _ _ _ _ HP.out).mono ?_
      rintro e wq' ⟨v, rfl, hgq', hh⟩
      go_wp2_with fail
      exact hKq _ _ hgq' hh
    intro vb
    simp only [Act.put, List.setIfInBounds_toArray, List.set_cons_succ, List.set_cons_zero]
    apply lex_pinv (.bool true)
    · intro wq hgq hdq Kq hKq
      have H1 := Lib.hid (hdq 8 _ rfl (by kernel_rfl))
      have H2 := Lib.hid (hdq 12 _ rfl (by kernel_rfl))
      clear hdq
      go_wp2_with fail
      refine (samePlanes_yes _ _ _ _ _ _ _ _ _ _ _ _ _ H1.out H2.out).mono ?_
      rintro e wq' ⟨rfl, hgq'⟩
      go_wp2_with fail
      exact hKq _ hgq'
    simp only [Act.put, List.setIfInBounds_toArray, List.set_cons_succ, List.set_cons_zero]
    iterate 2
      apply lex_pinv
      · intro wq hgq hdq Kq hKq
        go_wp2
        exact hKq _ (Grows.rfl' _)
      simp only [Act.put, List.setIfInBounds_toArray, List.set_cons_succ, List.set_cons_zero]
    refine lex_end ?_
    intro w3 hg3 _
    go_wp2
    go_ret
    exact ⟨rfl, ((Grows.rfl' w).alloc' _).drew'.step hg3⟩
  · have HP := Lib.hid hp
    clear hp
    apply wp_region_lex_lit 16 (by kernel_rfl) (by kernel_rfl)
    iterate 16
      apply lex_pin
      · intro wq hgq hdq Kq hKq
        obtain ⟨hcq, _⟩ := hgq.cells
        go_wp2_with ((go_at_call 10; refine (plainY_no _ _ _ _ _ _ HP.out ha hb).mono ?_); rintro e wq' ⟨rfl, hgq'⟩)
        first | exact hKq _ (Grows.rfl' _) | exact hKq _ hgq'
      · kernel_rfl
    refine lex_end ?_
    intro w3 hg3 _
    go_wp2
    go_ret
    exact ⟨rfl, ((Grows.rfl' w).alloc' _).drew'.step hg3⟩

set_option linter.unusedVariables false
set_option maxRecDepth 100000 in
theorem lifted (os : Os) (started : os.Started) (H : Type) (enc : TypeId × Value → H) :
    ReturnsInHanded {} Try.checked os 3 .any (Rows.fnYCbCrNewSpec.pre6 enc Try.prog Try.f3 Rows.fnYCbCrNewRow.domain false) (Rows.fnYCbCrNewSpec.post enc Try.prog Try.f3 false true false false) := by
  refine returnsInHanded_of_change_sized (C := Try.checked) own started (by kernel_rfl) Try.func3
    (ChangeSpec.witness6 (enc := enc) (C := Try.checked) false ⟨#[], #[.agg #[.int .i64 0, .int .i64 0, .int .i64 0, .int .i64 0], .int .i64 0], []⟩ 8 (by kernel_rfl) (by kernel_rfl) (by kernel_rfl) (by kernel_rfl)) ?_
  intro W base args ds gs before hval0 hW hcnd hsz0 _
  have hval : ∀ (j : Nat) t v, Try.f3.params[j]? = some t → args[j]? = some v → Value.okWide Try.prog W .any base t v := hval0
  have hsz : (DataW.weightsEach Try.prog (Try.f3.params.toList ++ Rows.fnYCbCrNewSpec.plain.varTypes Try.prog) (ds ++ gs)).all (· ≤ reachBytes) = true := hsz0
  clear hsz0
  have hW' := hW
  obtain ⟨p, q, hA0, hV, rfl, hfz, hnd⟩ := hW
  have hA : DataW.TrodAll enc Try.prog W 0 (fun _ => true) true Try.f3.params.toList args.toList ds p := hA0
  rw [Try.params3] at hA hval hsz
  obtain ⟨v0, vs0, d0, ds0, p0, q0, hargs, rfl, rfl, h0, r0⟩ := trodAll_cons hA
  obtain ⟨v1, vs1, d1, ds1, p1, q1, rfl, rfl, rfl, h1, r1⟩ := trodAll_cons r0
  obtain ⟨rfl, rfl, rfl⟩ := trodAll_nil r1
  obtain rfl : args = #[v0, v1] := by cases args; simp_all
  obtain ⟨rfl, rfl⟩ := trodVars_none hV
  have k0 := h0
  have lt0 : ∀ x ∈ p0, x.block < W.heap.size := by obtain ⟨m, hm⟩ := k0; exact DataW.trod_lt m _ _ _ hm
  have k1 := h1
  have lt1 : ∀ x ∈ p1, x.block < W.heap.size := by obtain ⟨m, hm⟩ := k1; exact DataW.trod_lt m _ _ _ hm
  obtain ⟨s0a, s0b, s0c, s0d, rfl, ⟨b0a, b0b, b0c, b0d⟩⟩ := open_four Try.underlying23 (by kernel_rfl) cells23 (hval 0 23 v0 rfl rfl) h0
  obtain ⟨x1, rfl, he1, _, w1⟩ := open_int Try.underlying3 (hval 1 3 v1 rfl rfl) h1
  refine (walk s0a s0b s0c s0d x1 W b0a b0b b0c b0d (bounds_i64 w1)).mono fun e W' ⟨he, bel⟩ => ?_
  subst he
  exact ⟨_, rfl, _, _, _, [], _, [], hW', trodAll_mk1 (shut_bool Try.underlying4 _), (trodAll_cons_mk (Below.trod laidOut (by kernel_rfl) (of_decide_eq_true (by kernel_rfl)) k0 bel lt0) (trodAll_cons_mk (Below.trod laidOut (by kernel_rfl) (of_decide_eq_true (by kernel_rfl)) k1 bel lt1) trodAll_mk0)), rfl, bel.frame _, fun h => by cases h⟩

theorem proved : Rows.FnYCbCrNewSaid :=
  OpenClaim.holds_of_wide 3 Try.f3 rfl rfl rfl rfl rfl rfl rfl ⟨rfl, rfl, rfl, rfl, rfl⟩ rfl rfl rfl rfl rfl (by kernel_rfl) Try.func3 (by kernel_rfl)
    (of_decide_eq_true (by kernel_rfl)) (by unfold Func.isWrapper; first | (rw [if_pos (by decide +kernel)]; kernel_rfl) | (rw [if_neg (by decide +kernel)]; exact ⟨rfl, rfl⟩))
    (fun os started H enc _ => lifted os started H enc)
#print axioms proved
end Go.Proofs.Ytjcaibhodplojaa.lawYCbCrNew

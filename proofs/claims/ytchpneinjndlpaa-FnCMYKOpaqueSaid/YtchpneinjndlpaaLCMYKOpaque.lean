/-
  FnCMYKOpaque returns true for every input, and each argument reads afterwards as before. Conditions: none beyond the row's own.
-/
import Derived.Test.YtchpneinjndlpaaOpaque
import Derived.Test.YtchpneinjndlpaaLift
namespace Go.Proofs.Ytchpneinjndlpaa.lawCMYKOpaque
open Go.ChangeShapes Go.WideShapes Go.ChangeAt Go.RowKit
set_option linter.unusedVariables false

theorem impl_r (res : Bool) (a b c d : Int) (v : Value) (zs : List Int) (w : World) (hf : Fine a b c d) (h : RdI w v zs) (hr : res = true) : Calls Try.prog 18 #[box4 a b c d, v] w fun e w' => e = .returned (.bool res) ∧ Grows w w' := by
  rw [hr]; exact implOpaque_any a b c d v zs w hf h
theorem spec_r (res : Bool) (a b c d : Int) (v : Value) (zs : List Int) (w : World) (hf : Fine a b c d) (h : RdI w v zs) (hr : res = true) : Calls Try.prog 19 #[box4 a b c d, v] w fun e w' => e = .returned (.bool res) ∧ Grows w w' := by
  rw [hr]; exact specOpaque_any a b c d v zs w hf h

set_option maxHeartbeats 2000000 in
theorem walk (a b c d : Int) (v : Value) (zs : List Int) (w : World) (ha : I64 a) (hb : I64 b) (hc : I64 c) (hd : I64 d) (h : RdI w v zs) :
    Calls Try.prog 7 #[box4 a b c d, v] w fun e w' => e = .returned (.bool true) ∧ Grows w w' := by
  have HR := Lib.hid h
  obtain ⟨A, cc, rfl, _⟩ := h
  have hfr := field_rect
  go_enter Try.func7, Try.ntmps7
  go_wp2_with fail
  refine (asRect_any _ _ _ _ _).mono ?_
  rintro e w1 ⟨rfl, hg1⟩
  have q0 : w1.cell? ⟨w.heap.size, 0, none⟩ = some (.int .i64 a) := hg1.cell_some (by simp)
  have q1 : w1.cell? ⟨w.heap.size, 1, none⟩ = some (.int .i64 b) := hg1.cell_some (by simp)
  have q2 : w1.cell? ⟨w.heap.size, 2, none⟩ = some (.int .i64 c) := hg1.cell_some (by simp)
  have q3 : w1.cell? ⟨w.heap.size, 3, none⟩ = some (.int .i64 d) := hg1.cell_some (by simp)
  have hsz : w.heap.size < w1.heap.size := cell_lt q0
  have HG : Hid (Grows w w1) := ((Grows.rfl' w).alloc' _).step hg1
  clear hg1
  go_wp2_with fail
  by_cases hf : Fine a b c d
  · have HF := Lib.hid hf
    clear hf
    obtain ⟨res, hres⟩ : ∃ res : Bool, res = true := ⟨_, rfl⟩
    have HRES := Lib.hid hres
    clear hres
    cases res
    all_goals try (exact absurd HRES.out (by decide))
    clear HRES
    all_goals
      apply wp_region_lex_lit 20 (by kernel_rfl) (by kernel_rfl)
      iterate 13
        apply lex_pin
        · intro wq hgq hdq Kq hKq
          obtain ⟨hcq, _⟩ := hgq.cells
          go_wp2_with ((first | (go_at_call 10; refine (fine_yes _ _ _ _ _ HF.out).mono ?_) | (go_at_call 18; refine (impl_r _ _ _ _ _ _ zs _ HF.out (HR.out.grows ((HG.out.alloc' _).drew'.step hgq)) rfl).mono ?_) | (go_at_call 19; refine (spec_r _ _ _ _ _ _ zs _ HF.out (HR.out.grows ((HG.out.alloc' _).drew'.step hgq)) rfl).mono ?_)); rintro e wq' ⟨rfl, hgq'⟩)
          first | exact hKq _ (Grows.rfl' _) | exact hKq _ hgq'
        · kernel_rfl
      apply lex_any (HasRect a b c d) (HasRect.keep)
      · intro wq hgq hdq Kq hKq
        go_wp2_with fail
        refine ((implNew_any _ _ _ _ _ HF.out).mono fun e w' h => h.hasRect).mono ?_
        rintro e wq' ⟨v, rfl, hgq', hp⟩
        go_wp2_with fail
        exact hKq _ _ hgq' hp
      intro vn
      simp only [Act.put, List.setIfInBounds_toArray, List.set_cons_succ, List.set_cons_zero]
      apply lex_pinv (box4 a b c d)
      · intro wq hgq hdq Kq hKq
        obtain ⟨st, p, rfl⟩ := hdq 13 _ rfl (by kernel_rfl)
        go_wp2
        exact hKq _ (Grows.rfl' _)
      simp only [Act.put, List.setIfInBounds_toArray, List.set_cons_succ, List.set_cons_zero]
      iterate 5
        apply lex_pinv
        · intro wq hgq hdq Kq hKq
          obtain ⟨hcq, _⟩ := hgq.cells
          go_wp2
          exact hKq _ (Grows.rfl' _)
        simp only [Act.put, List.setIfInBounds_toArray, List.set_cons_succ, List.set_cons_zero]
      refine lex_end ?_
      intro w3 hg3 _
      go_wp2
      go_ret
      exact ⟨rfl, (HG.out.alloc' _).drew'.step hg3⟩
  · have HF := Lib.hid hf
    clear hf
    apply wp_region_lex_lit 20 (by kernel_rfl) (by kernel_rfl)
    iterate 20
      apply lex_pin
      · intro wq hgq hdq Kq hKq
        obtain ⟨hcq, _⟩ := hgq.cells
        go_wp2_with ((go_at_call 10; refine (fine_no _ _ _ _ _ HF.out ha hb).mono ?_); rintro e wq' ⟨rfl, hgq'⟩)
        first | exact hKq _ (Grows.rfl' _) | exact hKq _ hgq'
      · kernel_rfl
    refine lex_end ?_
    intro w3 hg3 _
    go_wp2
    go_ret
    exact ⟨rfl, (HG.out.alloc' _).drew'.step hg3⟩

set_option linter.unusedVariables false
set_option maxRecDepth 100000 in
theorem lifted (os : Os) (started : os.Started) (H : Type) (enc : TypeId × Value → H) :
    ReturnsInHanded {} Try.checked os 7 .any (Rows.fnCMYKOpaqueSpec.pre6 enc Try.prog Try.f7 Rows.fnCMYKOpaqueRow.domain false) (Rows.fnCMYKOpaqueSpec.post enc Try.prog Try.f7 false true false false) := by
  refine returnsInHanded_of_change_sized (C := Try.checked) own started (by kernel_rfl) Try.func7
    (ChangeSpec.witness6 (enc := enc) (C := Try.checked) false ⟨#[], #[.agg #[.int .i64 0, .int .i64 0, .int .i64 0, .int .i64 0], .slice none 0 0], []⟩ 8 (by kernel_rfl) (by kernel_rfl) (by kernel_rfl) (by kernel_rfl)) ?_
  intro W base args ds gs before hval0 hW hcnd hsz0 _
  have hval : ∀ (j : Nat) t v, Try.f7.params[j]? = some t → args[j]? = some v → Value.okWide Try.prog W .any base t v := hval0
  have hsz : (DataW.weightsEach Try.prog (Try.f7.params.toList ++ Rows.fnCMYKOpaqueSpec.plain.varTypes Try.prog) (ds ++ gs)).all (· ≤ reachBytes) = true := hsz0
  clear hsz0
  have hW' := hW
  obtain ⟨p, q, hA0, hV, rfl, hfz, hnd⟩ := hW
  have hA : DataW.TrodAll enc Try.prog W 0 (fun _ => true) true Try.f7.params.toList args.toList ds p := hA0
  rw [Try.params7] at hA hval hsz
  obtain ⟨v0, vs0, d0, ds0, p0, q0, hargs, rfl, rfl, h0, r0⟩ := trodAll_cons hA
  obtain ⟨v1, vs1, d1, ds1, p1, q1, rfl, rfl, rfl, h1, r1⟩ := trodAll_cons r0
  obtain ⟨rfl, rfl, rfl⟩ := trodAll_nil r1
  obtain rfl : args = #[v0, v1] := by cases args; simp_all
  obtain ⟨rfl, rfl⟩ := trodVars_none hV
  have k0 := h0
  have lt0 : ∀ x ∈ p0, x.block < W.heap.size := by obtain ⟨m, hm⟩ := k0; exact DataW.trod_lt m _ _ _ hm
  have k1 := h1
  have lt1 : ∀ x ∈ p1, x.block < W.heap.size := by obtain ⟨m, hm⟩ := k1; exact DataW.trod_lt m _ _ _ hm
  obtain ⟨s0a, s0b, s0c, s0d, rfl, ⟨b0a, b0b, b0c, b0d⟩⟩ := open_four Try.underlying23 (by kernel_rfl) cells23 (hval 0 23 v0 rfl rfl) h0
  obtain ⟨z1, hz1⟩ := open_list (hval 1 24 v1 rfl rfl) h1 (fun el sp hd => by subst hd; exact sized_slice hsz (j := 1) (t := 24) (e := 3) rfl rfl Try.underlying24)
  refine (walk s0a s0b s0c s0d v1 z1 W b0a b0b b0c b0d hz1).mono fun e W' ⟨he, bel⟩ => ?_
  subst he
  exact ⟨_, rfl, _, _, _, [], _, [], hW', trodAll_mk1 (shut_bool Try.underlying4 _), (trodAll_cons_mk (Below.trod laidOut (by kernel_rfl) (of_decide_eq_true (by kernel_rfl)) k0 bel lt0) (trodAll_cons_mk (Below.trod laidOut (by kernel_rfl) (of_decide_eq_true (by kernel_rfl)) k1 bel lt1) trodAll_mk0)), rfl, bel.frame _, fun h => by cases h⟩

theorem proved : Rows.FnCMYKOpaqueSaid :=
  OpenClaim.holds_of_wide 7 Try.f7 rfl rfl rfl rfl rfl rfl rfl ⟨rfl, rfl, rfl, rfl, rfl⟩ rfl rfl rfl rfl rfl (by kernel_rfl) Try.func7 (by kernel_rfl)
    (of_decide_eq_true (by kernel_rfl)) (by unfold Func.isWrapper; first | (rw [if_pos (by decide +kernel)]; kernel_rfl) | (rw [if_neg (by decide +kernel)]; exact ⟨rfl, rfl⟩))
    (fun os started H enc _ => lifted os started H enc)
#print axioms proved
end Go.Proofs.Ytchpneinjndlpaa.lawCMYKOpaque

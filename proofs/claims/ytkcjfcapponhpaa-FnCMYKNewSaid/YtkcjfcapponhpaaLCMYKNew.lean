/-
  FnCMYKNew returns true for every rectangle, and each argument reads afterwards as before. Conditions: none beyond the row's own.
-/
import Derived.Test.YtkcjfcapponhpaaNew
import Derived.Test.YtkcjfcapponhpaaSamePic
import Derived.Test.YtkcjfcapponhpaaLift
namespace Go.Proofs.Ytkcjfcapponhpaa.lawCMYKNew
open Go.ChangeShapes Go.WideShapes Go.ChangeAt Go.RowKit
set_option linter.unusedVariables false

theorem zero_in (n : Nat) : ∀ m ∈ bytesOf n (fun _ => 0), -9223372036854775808 ≤ m ∧ m ≤ 9223372036854775807 := bytesOf_in (fun _ _ => by omega)
theorem nil_in (i : Nat) : -9223372036854775808 ≤ byteAt [] i ∧ byteAt [] i ≤ 9223372036854775807 := by have := byteAt_in [] i; omega
theorem nil_zero (n : Nat) : bytesOf n (byteAt []) = bytesOf n (fun _ => 0) := bytesOf_congr fun i _ => by simp [byteAt]

set_option maxHeartbeats 1000000 in
theorem walk (a b c d : Int) (w : World) (ha : -9223372036854775808 ≤ a ∧ a ≤ 9223372036854775807) (hb : -9223372036854775808 ≤ b ∧ b ≤ 9223372036854775807) (hc : -9223372036854775808 ≤ c ∧ c ≤ 9223372036854775807) (hd : -9223372036854775808 ≤ d ∧ d ≤ 9223372036854775807) :
    Calls Try.prog 3 #[box4 a b c d] w fun e w' => e = .returned (.bool true) ∧ Grows w w' := by
  by_cases hf : Fine a b c d
  · have HF := Lib.hid hf
    have htl := total_le (k := 4) (by omega) hf
    clear hf
    go_enter Try.func3, Try.ntmps3
    go_wp2_with fail
    apply wp_region_lex_lit 13 (by kernel_rfl) (by kernel_rfl)
    iterate 6
      apply lex_pin
      · intro wq hgq hdq Kq hKq
        obtain ⟨hcq, _⟩ := hgq.cells
        go_wp2_with ((first | (go_at_call 10; refine (fine_yes _ _ _ _ _ HF.out).mono ?_) | (go_at_call 13; refine (asRect_any _ _ _ _ _).mono ?_)); rintro e wq' ⟨rfl, hgq'⟩)
        first | exact hKq _ (Grows.rfl' _) | exact hKq _ hgq'
      · kernel_rfl
    apply lex_any (IsPic a b c d (sd a c 4) (bytesOf (total a b c d 4) (fun _ => 0))) (IsPic.keep)
    · intro wq hgq hdq Kq hKq
      go_wp2_with fail
      refine ((implNew_any _ _ _ _ _ HF.out).mono fun e w' h => h.isPic (by rw [bytesOf_length]; omega) (zero_in _)).mono ?_
      rintro e wq' ⟨v, rfl, hgq', hp⟩
      go_wp2_with fail
      exact hKq _ _ hgq' hp
    intro v9
    simp only [Act.put, List.setIfInBounds_toArray, List.set_cons_succ, List.set_cons_zero]
    iterate 2
      apply lex_pinv
      · intro wq hgq hdq Kq hKq
        obtain ⟨hcq, _⟩ := hgq.cells
        go_wp2_with ((go_at_call 13; refine (asRect_any _ _ _ _ _).mono ?_); rintro e wq' ⟨rfl, hgq'⟩)
        first | exact hKq _ (Grows.rfl' _) | exact hKq _ hgq'
      simp only [Act.put, List.setIfInBounds_toArray, List.set_cons_succ, List.set_cons_zero]
    apply lex_any (IsPic a b c d (sd a c 4) (bytesOf (total a b c d 4) (fun _ => 0))) (IsPic.keep)
    · intro wq hgq hdq Kq hKq
      go_wp2_with fail
      refine ((specNew_any _ _ _ _ _ HF.out).mono fun e w' h => h.isPic (by omega) (fun i _ => nil_in i)).mono ?_
      rintro e wq' ⟨v, rfl, hgq', hp⟩
      go_wp2_with fail
      exact hKq _ _ hgq' (by rw [nil_zero] at hp; exact hp)
    intro v12
    simp only [Act.put, List.setIfInBounds_toArray, List.set_cons_succ, List.set_cons_zero]
    apply lex_pinv (.bool true)
    · intro wq hgq hdq Kq hKq
      have H1 := Lib.hid (hdq 6 _ rfl (by kernel_rfl))
      have H2 := Lib.hid (hdq 9 _ rfl (by kernel_rfl))
      clear hdq
      go_wp2_with fail
      refine (samePicture_yes _ _ _ _ _ _ _ _ _ H1.out H2.out).mono ?_
      rintro e wq' ⟨rfl, hgq'⟩
      go_wp2_with fail
      exact hKq _ hgq'
    simp only [Act.put, List.setIfInBounds_toArray, List.set_cons_succ, List.set_cons_zero]
    iterate 2
      apply lex_pinv
      · intro wq hgq hdq Kq hKq
        go_wp2
        exact hKq _ (Grows.rfl' _)
      simp only [Act.put, List.setIfInBounds_toArray, List.set_cons_succ, List.set_cons_zero]
    refine lex_end ?_
    intro w3 hg3 _
    go_wp2
    go_ret
    exact ⟨rfl, ((Grows.rfl' w).alloc' _).drew'.step hg3⟩
  · have HF := Lib.hid hf
    clear hf
    go_enter Try.func3, Try.ntmps3
    go_wp2_with fail
    apply wp_region_lex_lit 13 (by kernel_rfl) (by kernel_rfl)
    iterate 13
      apply lex_pin
      · intro wq hgq hdq Kq hKq
        obtain ⟨hcq, _⟩ := hgq.cells
        go_wp2_with ((go_at_call 10; refine (fine_no _ _ _ _ _ HF.out ha hb).mono ?_); rintro e wq' ⟨rfl, hgq'⟩)
        first | exact hKq _ (Grows.rfl' _) | exact hKq _ hgq'
      · kernel_rfl
    refine lex_end ?_
    intro w3 hg3 _
    go_wp2
    go_ret
    exact ⟨rfl, ((Grows.rfl' w).alloc' _).drew'.step hg3⟩

set_option linter.unusedVariables false
set_option maxRecDepth 100000 in
theorem lifted (os : Os) (started : os.Started) (H : Type) (enc : TypeId × Value → H) :
    ReturnsInHanded {} Try.checked os 3 .any (Rows.fnCMYKNewSpec.pre6 enc Try.prog Try.f3 Rows.fnCMYKNewRow.domain false) (Rows.fnCMYKNewSpec.post enc Try.prog Try.f3 false true false false) := by
  refine returnsInHanded_of_change_sized (C := Try.checked) own started (by kernel_rfl) Try.func3
    (ChangeSpec.witness6 (enc := enc) (C := Try.checked) false ⟨#[], #[.agg #[.int .i64 0, .int .i64 0, .int .i64 0, .int .i64 0]], []⟩ 8 (by kernel_rfl) (by kernel_rfl) (by kernel_rfl) (by kernel_rfl)) ?_
  intro W base args ds gs before hval0 hW hcnd hsz0 _
  have hval : ∀ (j : Nat) t v, Try.f3.params[j]? = some t → args[j]? = some v → Value.okWide Try.prog W .any base t v := hval0
  have hsz : (DataW.weightsEach Try.prog (Try.f3.params.toList ++ Rows.fnCMYKNewSpec.plain.varTypes Try.prog) (ds ++ gs)).all (· ≤ reachBytes) = true := hsz0
  clear hsz0
  have hW' := hW
  obtain ⟨p, q, hA0, hV, rfl, hfz, hnd⟩ := hW
  have hA : DataW.TrodAll enc Try.prog W 0 (fun _ => true) true Try.f3.params.toList args.toList ds p := hA0
  rw [Try.params3] at hA hval hsz
  obtain ⟨v0, vs0, d0, ds0, p0, q0, hargs, rfl, rfl, h0, r0⟩ := trodAll_cons hA
  obtain ⟨rfl, rfl, rfl⟩ := trodAll_nil r0
  obtain rfl : args = #[v0] := by cases args; simp_all
  obtain ⟨rfl, rfl⟩ := trodVars_none hV
  have k0 := h0
  have lt0 : ∀ x ∈ p0, x.block < W.heap.size := by obtain ⟨m, hm⟩ := k0; exact DataW.trod_lt m _ _ _ hm
  obtain ⟨s0a, s0b, s0c, s0d, rfl, ⟨b0a, b0b, b0c, b0d⟩⟩ := open_four Try.underlying23 (by kernel_rfl) cells23 (hval 0 23 v0 rfl rfl) h0
  refine (walk s0a s0b s0c s0d W b0a b0b b0c b0d).mono fun e W' ⟨he, bel⟩ => ?_
  subst he
  exact ⟨_, rfl, _, _, _, [], _, [], hW', trodAll_mk1 (shut_bool Try.underlying4 _), (trodAll_cons_mk (Below.trod laidOut (by kernel_rfl) (of_decide_eq_true (by kernel_rfl)) k0 bel lt0) trodAll_mk0), rfl, bel.frame _, fun h => by cases h⟩

theorem proved : Rows.FnCMYKNewSaid :=
  OpenClaim.holds_of_wide 3 Try.f3 rfl rfl rfl rfl rfl rfl rfl ⟨rfl, rfl, rfl, rfl, rfl⟩ rfl rfl rfl rfl rfl (by kernel_rfl) Try.func3 (by kernel_rfl)
    (of_decide_eq_true (by kernel_rfl)) (by unfold Func.isWrapper; first | (rw [if_pos (by decide +kernel)]; kernel_rfl) | (rw [if_neg (by decide +kernel)]; exact ⟨rfl, rfl⟩))
    (fun os started H enc _ => lifted os started H enc)
#print axioms proved
end Go.Proofs.Ytkcjfcapponhpaa.lawCMYKNew

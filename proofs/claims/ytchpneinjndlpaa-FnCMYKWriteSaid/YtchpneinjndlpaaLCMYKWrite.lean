/-
  FnCMYKWrite returns true for every input, and each argument reads afterwards as before. Conditions: none beyond the row's own.
-/
import Derived.Test.YtchpneinjndlpaaPut
import Derived.Test.YtchpneinjndlpaaPaint
import Derived.Test.YtchpneinjndlpaaLift
namespace Go.Proofs.Ytchpneinjndlpaa.lawCMYKWrite
open Go.ChangeShapes Go.WideShapes Go.ChangeAt Go.RowKit
set_option linter.unusedVariables false

theorem low255 {n0 n1 n2 n3 : Int} : ∀ m ∈ [n0 % 256, n1 % 256, n2 % 256, n3 % 256], 0 ≤ m ∧ m ≤ 255 := by intro m hm; simp at hm; omega
theorem wide255 {f : Nat → Int} (h : ∀ i, 0 ≤ f i ∧ f i ≤ 255) (i : Nat) : -9223372036854775808 ≤ f i ∧ f i ≤ 9223372036854775807 := by have := h i; omega

set_option maxHeartbeats 2000000 in
theorem walk (a b c d : Int) (v : Value) (zs : List Int) (x y n0 n1 n2 n3 : Int) (w : World) (ha : -9223372036854775808 ≤ a ∧ a ≤ 9223372036854775807) (hb : -9223372036854775808 ≤ b ∧ b ≤ 9223372036854775807) (hc : -9223372036854775808 ≤ c ∧ c ≤ 9223372036854775807) (hd : -9223372036854775808 ≤ d ∧ d ≤ 9223372036854775807) (h : RdI w v zs)
    (hx : -9223372036854775808 ≤ x ∧ x ≤ 9223372036854775807) (hy : -9223372036854775808 ≤ y ∧ y ≤ 9223372036854775807) (hn0 : I64 n0) (hn1 : I64 n1) (hn2 : I64 n2) (hn3 : I64 n3) :
    Calls Try.prog 3 #[box4 a b c d, v, .int .i64 x, .int .i64 y, box4 n0 n1 n2 n3] w fun e w' => e = .returned (.bool true) ∧ Grows w w' := by
  have HR := Lib.hid h
  obtain ⟨A, cc, rfl, _⟩ := h
  go_enter Try.func3, Try.ntmps3
  go_wp2_with fail
  refine (asRect_any _ _ _ _ _).mono ?_
  rintro e w1 ⟨rfl, hg1⟩
  have q0 : w1.cell? ⟨w.heap.size, 0, none⟩ = some (.int .i64 a) := hg1.cell_some (by simp)
  have q1 : w1.cell? ⟨w.heap.size, 1, none⟩ = some (.int .i64 b) := hg1.cell_some (by simp)
  have q2 : w1.cell? ⟨w.heap.size, 2, none⟩ = some (.int .i64 c) := hg1.cell_some (by simp)
  have q3 : w1.cell? ⟨w.heap.size, 3, none⟩ = some (.int .i64 d) := hg1.cell_some (by simp)
  have hsz : w.heap.size < w1.heap.size := cell_lt q0
  have HG : Hid (Grows w w1) := (((Grows.rfl' w).alloc' _).alloc' _).step hg1
  have HN : Hid (BoxAt w1 (w.heap.size + 1) n0 n1 n2 n3) := ⟨(hg1).cell_some (by first | exact cell_top (by simp) rfl | simp), (hg1).cell_some (by first | exact cell_top (by simp) rfl | simp), (hg1).cell_some (by first | exact cell_top (by simp) rfl | simp), (hg1).cell_some (by first | exact cell_top (by simp) rfl | simp)⟩
  obtain ⟨p0, p1, p2, p3⟩ := HN.out
  have hszn : w.heap.size + 1 < w1.heap.size := cell_lt p0
  clear hg1
  go_wp2_with fail
  by_cases hf : Fine a b c d
  · have HF := Lib.hid hf
    have htl := total_le (k := 4) (by omega) hf
    clear hf
    by_cases hin : Inn a b c d x y
    · have HIN := Lib.hid hin
      clear hin
      apply wp_region_lex_lit 28 (by kernel_rfl) (by kernel_rfl)
      iterate 17
        apply lex_pin
        · intro wq hgq hdq Kq hKq
          obtain ⟨hcq, _⟩ := hgq.cells
          go_wp2_with ((first | (go_at_call 10; refine (fine_yes _ _ _ _ _ HF.out).mono ?_) | (go_at_call 11; refine (has_yes _ _ _ _ _ _ _ HIN.out).mono ?_) | (go_at_call 14; refine (asColor_any _ _ _ _ _).mono ?_)); rintro e wq' ⟨rfl, hgq'⟩)
          first | exact hKq _ (Grows.rfl' _) | exact hKq _ hgq'
        · kernel_rfl
      apply lex_any (IsPic a b c d (sd a c 4) (bytesOf (total a b c d 4) (wr a b c d 4 (byteAt zs) x y [n0 % 256, n1 % 256, n2 % 256, n3 % 256]))) (IsPic.keep)
      · intro wq hgq hdq Kq hKq
        go_wp2_with fail
        refine ((write_any _ _ _ _ _ _ n0 n1 n2 n3 _ zs _ HF.out (HR.out.grows ((HG.out.alloc' _).drew'.step hgq))).mono fun e w' h => h.isPic (by rw [bytesOf_length]; omega) (bytesOf_in fun i _ => wide255 (wr_in255 (byteAt_in zs) low255) i)).mono ?_
        rintro e wq' ⟨v, rfl, hgq', hp⟩
        go_wp2_with fail
        exact hKq _ _ hgq' hp
      intro v30
      simp only [Act.put, List.setIfInBounds_toArray, List.set_cons_succ, List.set_cons_zero]
      iterate 6
        apply lex_pinv
        · intro wq hgq hdq Kq hKq
          obtain ⟨hcq, _⟩ := hgq.cells
          go_wp2_with ((go_at_call 14; refine (asColor_any _ _ _ _ _).mono ?_); rintro e wq' ⟨rfl, hgq'⟩)
          first | exact hKq _ (Grows.rfl' _) | exact hKq _ hgq'
        simp only [Act.put, List.setIfInBounds_toArray, List.set_cons_succ, List.set_cons_zero]
      apply lex_any (IsPic a b c d (sd a c 4) (bytesOf (total a b c d 4) (wr a b c d 4 (byteAt zs) x y [n0 % 256, n1 % 256, n2 % 256, n3 % 256]))) (IsPic.keep)
      · intro wq hgq hdq Kq hKq
        go_wp2_with fail
        refine ((specWrite_any _ _ _ _ _ _ n0 n1 n2 n3 _ zs _ HF.out (HR.out.grows ((HG.out.alloc' _).drew'.step hgq))).mono fun e w' h => h.isPic (by omega) (fun i _ => wide255 (wr_in255 (byteAt_in zs) low255) i)).mono ?_
        rintro e wq' ⟨v, rfl, hgq', hp⟩
        go_wp2_with fail
        exact hKq _ _ hgq' hp
      intro v36
      simp only [Act.put, List.setIfInBounds_toArray, List.set_cons_succ, List.set_cons_zero]
      apply lex_pinv (.bool true)
      · intro wq hgq hdq Kq hKq
        have H1 := Lib.hid (hdq 17 _ rfl (by kernel_rfl))
        have H2 := Lib.hid (hdq (17 + 6 + 1) _ rfl (by kernel_rfl))
        clear hdq
        go_wp2_with fail
        refine (samePicture_yes _ _ _ _ _ _ _ _ _ H1.out H2.out).mono ?_
        rintro e wq' ⟨rfl, hgq'⟩
        go_wp2_with fail
        exact hKq _ hgq'
      simp only [Act.put, List.setIfInBounds_toArray, List.set_cons_succ, List.set_cons_zero]
      iterate 2
        apply lex_pinv
        · intro wq hgq hdq Kq hKq
          go_wp2
          exact hKq _ (Grows.rfl' _)
        simp only [Act.put, List.setIfInBounds_toArray, List.set_cons_succ, List.set_cons_zero]
      refine lex_end ?_
      intro w3 hg3 _
      go_wp2
      go_ret
      exact ⟨rfl, (HG.out.alloc' _).drew'.step hg3⟩
    · have HIN := Lib.hid hin
      clear hin
      apply wp_region_lex_lit 28 (by kernel_rfl) (by kernel_rfl)
      iterate 28
        apply lex_pin
        · intro wq hgq hdq Kq hKq
          obtain ⟨hcq, _⟩ := hgq.cells
          go_wp2_with ((first | (go_at_call 10; refine (fine_yes _ _ _ _ _ HF.out).mono ?_) | (go_at_call 11; refine (has_no _ _ _ _ _ _ _ HIN.out).mono ?_)); rintro e wq' ⟨rfl, hgq'⟩)
          first | exact hKq _ (Grows.rfl' _) | exact hKq _ hgq'
        · kernel_rfl
      refine lex_end ?_
      intro w3 hg3 _
      go_wp2
      go_ret
      exact ⟨rfl, (HG.out.alloc' _).drew'.step hg3⟩
  · have HF := Lib.hid hf
    clear hf
    apply wp_region_lex_lit 28 (by kernel_rfl) (by kernel_rfl)
    iterate 28
      apply lex_pin
      · intro wq hgq hdq Kq hKq
        obtain ⟨hcq, _⟩ := hgq.cells
        go_wp2_with ((first | (go_at_call 10; refine (fine_no _ _ _ _ _ HF.out ha hb).mono ?_) | (go_at_call 11; refine (has_no _ _ _ _ _ _ _ HIN.out).mono ?_)); rintro e wq' ⟨rfl, hgq'⟩)
        first | exact hKq _ (Grows.rfl' _) | exact hKq _ hgq'
      · kernel_rfl
    refine lex_end ?_
    intro w3 hg3 _
    go_wp2
    go_ret
    exact ⟨rfl, (HG.out.alloc' _).drew'.step hg3⟩

set_option linter.unusedVariables false
set_option maxRecDepth 100000 in
theorem lifted (os : Os) (started : os.Started) (H : Type) (enc : TypeId × Value → H) :
    ReturnsInHanded {} Try.checked os 3 .any (Rows.fnCMYKWriteSpec.pre6 enc Try.prog Try.f3 Rows.fnCMYKWriteRow.domain false) (Rows.fnCMYKWriteSpec.post enc Try.prog Try.f3 false true false false) := by
  refine returnsInHanded_of_change_sized (C := Try.checked) own started (by kernel_rfl) Try.func3
    (ChangeSpec.witness6 (enc := enc) (C := Try.checked) false ⟨#[], #[.agg #[.int .i64 0, .int .i64 0, .int .i64 0, .int .i64 0], .slice none 0 0, .int .i64 0, .int .i64 0, .agg #[.int .i64 0, .int .i64 0, .int .i64 0, .int .i64 0]], []⟩ 8 (by kernel_rfl) (by kernel_rfl) (by kernel_rfl) (by kernel_rfl)) ?_
  intro W base args ds gs before hval0 hW hcnd hsz0 _
  have hval : ∀ (j : Nat) t v, Try.f3.params[j]? = some t → args[j]? = some v → Value.okWide Try.prog W .any base t v := hval0
  have hsz : (DataW.weightsEach Try.prog (Try.f3.params.toList ++ Rows.fnCMYKWriteSpec.plain.varTypes Try.prog) (ds ++ gs)).all (· ≤ reachBytes) = true := hsz0
  clear hsz0
  have hW' := hW
  obtain ⟨p, q, hA0, hV, rfl, hfz, hnd⟩ := hW
  have hA : DataW.TrodAll enc Try.prog W 0 (fun _ => true) true Try.f3.params.toList args.toList ds p := hA0
  rw [Try.params3] at hA hval hsz
  obtain ⟨v0, vs0, d0, ds0, p0, q0, hargs, rfl, rfl, h0, r0⟩ := trodAll_cons hA
  obtain ⟨v1, vs1, d1, ds1, p1, q1, rfl, rfl, rfl, h1, r1⟩ := trodAll_cons r0
  obtain ⟨v2, vs2, d2, ds2, p2, q2, rfl, rfl, rfl, h2, r2⟩ := trodAll_cons r1
  obtain ⟨v3, vs3, d3, ds3, p3, q3, rfl, rfl, rfl, h3, r3⟩ := trodAll_cons r2
  obtain ⟨v4, vs4, d4, ds4, p4, q4, rfl, rfl, rfl, h4, r4⟩ := trodAll_cons r3
  obtain ⟨rfl, rfl, rfl⟩ := trodAll_nil r4
  obtain rfl : args = #[v0, v1, v2, v3, v4] := by cases args; simp_all
  obtain ⟨rfl, rfl⟩ := trodVars_none hV
  have k0 := h0
  have lt0 : ∀ x ∈ p0, x.block < W.heap.size := by obtain ⟨m, hm⟩ := k0; exact DataW.trod_lt m _ _ _ hm
  have k1 := h1
  have lt1 : ∀ x ∈ p1, x.block < W.heap.size := by obtain ⟨m, hm⟩ := k1; exact DataW.trod_lt m _ _ _ hm
  have k2 := h2
  have lt2 : ∀ x ∈ p2, x.block < W.heap.size := by obtain ⟨m, hm⟩ := k2; exact DataW.trod_lt m _ _ _ hm
  have k3 := h3
  have lt3 : ∀ x ∈ p3, x.block < W.heap.size := by obtain ⟨m, hm⟩ := k3; exact DataW.trod_lt m _ _ _ hm
  have k4 := h4
  have lt4 : ∀ x ∈ p4, x.block < W.heap.size := by obtain ⟨m, hm⟩ := k4; exact DataW.trod_lt m _ _ _ hm
  obtain ⟨s0a, s0b, s0c, s0d, rfl, ⟨b0a, b0b, b0c, b0d⟩⟩ := open_four Try.underlying23 (by kernel_rfl) cells23 (hval 0 23 v0 rfl rfl) h0
  obtain ⟨z1, hz1⟩ := open_list (hval 1 24 v1 rfl rfl) h1 (fun el sp hd => by subst hd; exact sized_slice hsz (j := 1) (t := 24) (e := 3) rfl rfl Try.underlying24)
  obtain ⟨x2, rfl, he2, _, w2⟩ := open_int Try.underlying3 (hval 2 3 v2 rfl rfl) h2
  obtain ⟨x3, rfl, he3, _, w3⟩ := open_int Try.underlying3 (hval 3 3 v3 rfl rfl) h3
  obtain ⟨s4a, s4b, s4c, s4d, rfl, ⟨b4a, b4b, b4c, b4d⟩⟩ := open_four Try.underlying26 (by kernel_rfl) cells26 (hval 4 26 v4 rfl rfl) h4
  refine (walk s0a s0b s0c s0d v1 z1 x2 x3 s4a s4b s4c s4d W b0a b0b b0c b0d hz1 (bounds_i64 w2) (bounds_i64 w3) b4a b4b b4c b4d).mono fun e W' ⟨he, bel⟩ => ?_
  subst he
  exact ⟨_, rfl, _, _, _, [], _, [], hW', trodAll_mk1 (shut_bool Try.underlying4 _), (trodAll_cons_mk (Below.trod laidOut (by kernel_rfl) (of_decide_eq_true (by kernel_rfl)) k0 bel lt0) (trodAll_cons_mk (Below.trod laidOut (by kernel_rfl) (of_decide_eq_true (by kernel_rfl)) k1 bel lt1) (trodAll_cons_mk (Below.trod laidOut (by kernel_rfl) (of_decide_eq_true (by kernel_rfl)) k2 bel lt2) (trodAll_cons_mk (Below.trod laidOut (by kernel_rfl) (of_decide_eq_true (by kernel_rfl)) k3 bel lt3) (trodAll_cons_mk (Below.trod laidOut (by kernel_rfl) (of_decide_eq_true (by kernel_rfl)) k4 bel lt4) trodAll_mk0))))), rfl, bel.frame _, fun h => by cases h⟩

theorem proved : Rows.FnCMYKWriteSaid :=
  OpenClaim.holds_of_wide 3 Try.f3 rfl rfl rfl rfl rfl rfl rfl ⟨rfl, rfl, rfl, rfl, rfl⟩ rfl rfl rfl rfl rfl (by kernel_rfl) Try.func3 (by kernel_rfl)
    (of_decide_eq_true (by kernel_rfl)) (by unfold Func.isWrapper; first | (rw [if_pos (by decide +kernel)]; kernel_rfl) | (rw [if_neg (by decide +kernel)]; exact ⟨rfl, rfl⟩))
    (fun os started H enc _ => lifted os started H enc)
#print axioms proved
end Go.Proofs.Ytchpneinjndlpaa.lawCMYKWrite

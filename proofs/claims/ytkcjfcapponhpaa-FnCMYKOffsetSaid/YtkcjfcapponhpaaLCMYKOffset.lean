/-
  FnCMYKOffset returns true for every input, and each argument reads afterwards as before. Conditions: none beyond the row's own.
-/
import Derived.Test.YtkcjfcapponhpaaOffset
import Derived.Test.YtkcjfcapponhpaaLift
namespace Go.Proofs.Ytkcjfcapponhpaa.lawCMYKOffset
open Go.ChangeShapes Go.WideShapes Go.ChangeAt Go.RowKit
set_option linter.unusedVariables false

theorem zero_in (n : Nat) : ∀ m ∈ bytesOf n (fun _ => 0), -9223372036854775808 ≤ m ∧ m ≤ 9223372036854775807 := bytesOf_in (fun _ _ => by omega)

set_option maxHeartbeats 1000000 in
theorem walk (a b c d x y : Int) (w : World) (ha : -9223372036854775808 ≤ a ∧ a ≤ 9223372036854775807) (hb : -9223372036854775808 ≤ b ∧ b ≤ 9223372036854775807) (hc : -9223372036854775808 ≤ c ∧ c ≤ 9223372036854775807) (hd : -9223372036854775808 ≤ d ∧ d ≤ 9223372036854775807)
    (hx : -9223372036854775808 ≤ x ∧ x ≤ 9223372036854775807) (hy : -9223372036854775808 ≤ y ∧ y ≤ 9223372036854775807) :
    Calls Try.prog 8 #[box4 a b c d, .int .i64 x, .int .i64 y] w fun e w' => e = .returned (.bool true) ∧ Grows w w' := by
  go_enter Try.func8, Try.ntmps8
  go_wp2_with fail
  refine (asRect_any _ _ _ _ _).mono ?_
  rintro e w1 ⟨rfl, hg1⟩
  have q0 : w1.cell? ⟨w.heap.size, 0, none⟩ = some (.int .i64 a) := hg1.cell_some (by simp)
  have q1 : w1.cell? ⟨w.heap.size, 1, none⟩ = some (.int .i64 b) := hg1.cell_some (by simp)
  have q2 : w1.cell? ⟨w.heap.size, 2, none⟩ = some (.int .i64 c) := hg1.cell_some (by simp)
  have q3 : w1.cell? ⟨w.heap.size, 3, none⟩ = some (.int .i64 d) := hg1.cell_some (by simp)
  have hsz : w.heap.size < w1.heap.size := cell_lt q0
  have HG : Hid (Grows w w1) := ((Grows.rfl' w).alloc' _).step hg1
  clear hg1
  by_cases hf : Fine a b c d
  · have HF := Lib.hid hf
    have htl := total_le (k := 4) (by omega) hf
    have hsd := sd_in (k := 4) (by omega) hf
    go_wp2_with fail
    refine (fine_yes _ _ _ _ _ HF.out).mono ?_
    rintro e w2 ⟨rfl, hg2⟩
    have r0 : w2.cell? ⟨w1.heap.size, 0, none⟩ = some (.int .i64 a) := hg2.cell_some (by simp)
    have r1 : w2.cell? ⟨w1.heap.size, 1, none⟩ = some (.int .i64 b) := hg2.cell_some (by simp)
    have r2 : w2.cell? ⟨w1.heap.size, 2, none⟩ = some (.int .i64 c) := hg2.cell_some (by simp)
    have r3 : w2.cell? ⟨w1.heap.size, 3, none⟩ = some (.int .i64 d) := hg2.cell_some (by simp)
    have HG2 : Hid (Grows w w2) := (HG.out.alloc' _).step hg2
    generalize w1.heap.size = bx at *
    clear hg2 q0 q1 q2 q3 HG
    by_cases hin : Inn a b c d x y
    · obtain ⟨i, hi, hil⟩ := inside_at (k := 4) HF.out (by omega) hin
      have HIN := Lib.hid hin
      have HE := Lib.hid hi
      obtain ⟨⟨f1, f2⟩, ⟨f3, f4⟩, ⟨f5, f6⟩, ⟨f7, f8⟩⟩ := hf
      obtain ⟨i1, i2, i3, i4⟩ := hin
      have p1 : 0 ≤ (y - b) * sd a c 4 := Int.mul_nonneg (by omega) (by omega)
      have p2 : (y - b) * sd a c 4 ≤ 1000 * 4000 := Int.mul_le_mul (by omega) (by omega) (by omega) (by omega)
      have t1 : ((i : Int) == (y - b) * sd a c 4 + (x - a) * 4) = true := by simp; omega
      have t2 : ((i : Int) == (y - b) * sd a c 4 + (x - a) * 4) = true := by simp; omega
      clear hi
      go_wp2_with fail
      refine (has_yes _ _ _ _ _ _ _ HIN.out).mono ?_
      rintro e w3 ⟨rfl, hg3⟩
      have s0 := hg3.cell_some r0
      have s1 := hg3.cell_some r1
      have s2 := hg3.cell_some r2
      have s3 := hg3.cell_some r3
      have HG3 := Lib.hid (HG2.out.step hg3)
      clear hg3 r0 r1 r2 r3 HG2
      go_wp2_with fail
      refine ((implNew_any _ _ _ _ _ HF.out).mono fun e w' h => h.isPic (by rw [bytesOf_length]; omega) (zero_in _)).mono ?_
      rintro e w4 ⟨v, rfl, hg4, p, rfl, hr⟩
      obtain ⟨A, cc, rfl, _⟩ := hr
      have r0 := hg4.cell_some s0
      have r1 := hg4.cell_some s1
      have r2 := hg4.cell_some s2
      have r3 := hg4.cell_some s3
      have HG4 := Lib.hid (HG3.out.step hg4)
      have hbx : bx < w4.heap.size := cell_lt r0
      clear hg4 s0 s1 s2 s3 HG3
      generalize (bytesOf (total a b c d 4) (fun _ => 0)).length = n at *
      go_wp2_with fail
      apply wp_region_lex_lit 38 (by kernel_rfl) (by kernel_rfl)
      iterate 38
        apply lex_pin
        · intro wq hgq hdq Kq hKq
          obtain ⟨hcq, _⟩ := hgq.cells
          go_wp2_with ((first | (go_at_call 21; refine (offset_in _ _ _ _ _ _ i _ HF.out HIN.out HE.out).mono ?_) | (go_at_call 22; refine (specOffset_in _ _ _ _ _ _ i _ HF.out HIN.out HE.out).mono ?_)); rintro e wq' ⟨rfl, hgq'⟩)
          first | exact hKq _ (Grows.rfl' _) | exact hKq _ hgq'
        · kernel_rfl
      refine lex_end ?_
      intro w5 hg5 _
      go_wp2
      go_ret
      exact ⟨rfl, (HG4.out.alloc' _).drew'.step hg5⟩
    · have HIN := Lib.hid hin
      clear hin
      go_wp2_with fail
      refine (has_no _ _ _ _ _ _ _ HIN.out).mono ?_
      rintro e w3 ⟨rfl, hg3⟩
      go_wp2_with fail
      go_ret
      exact ⟨rfl, HG2.out.step hg3⟩
  · have HF := Lib.hid hf
    clear hf
    go_wp2_with fail
    refine (fine_no _ _ _ _ _ HF.out ha hb).mono ?_
    rintro e w2 ⟨rfl, hg2⟩
    go_wp2_with fail
    go_ret
    exact ⟨rfl, (HG.out.alloc' _).step hg2⟩

set_option linter.unusedVariables false
set_option maxRecDepth 100000 in
theorem lifted (os : Os) (started : os.Started) (H : Type) (enc : TypeId × Value → H) :
    ReturnsInHanded {} Try.checked os 8 .any (Rows.fnCMYKOffsetSpec.pre6 enc Try.prog Try.f8 Rows.fnCMYKOffsetRow.domain false) (Rows.fnCMYKOffsetSpec.post enc Try.prog Try.f8 false true false false) := by
  refine returnsInHanded_of_change_sized (C := Try.checked) own started (by kernel_rfl) Try.func8
    (ChangeSpec.witness6 (enc := enc) (C := Try.checked) false ⟨#[], #[.agg #[.int .i64 0, .int .i64 0, .int .i64 0, .int .i64 0], .int .i64 0, .int .i64 0], []⟩ 8 (by kernel_rfl) (by kernel_rfl) (by kernel_rfl) (by kernel_rfl)) ?_
  intro W base args ds gs before hval0 hW hcnd hsz0 _
  have hval : ∀ (j : Nat) t v, Try.f8.params[j]? = some t → args[j]? = some v → Value.okWide Try.prog W .any base t v := hval0
  have hsz : (DataW.weightsEach Try.prog (Try.f8.params.toList ++ Rows.fnCMYKOffsetSpec.plain.varTypes Try.prog) (ds ++ gs)).all (· ≤ reachBytes) = true := hsz0
  clear hsz0
  have hW' := hW
  obtain ⟨p, q, hA0, hV, rfl, hfz, hnd⟩ := hW
  have hA : DataW.TrodAll enc Try.prog W 0 (fun _ => true) true Try.f8.params.toList args.toList ds p := hA0
  rw [Try.params8] at hA hval hsz
  obtain ⟨v0, vs0, d0, ds0, p0, q0, hargs, rfl, rfl, h0, r0⟩ := trodAll_cons hA
  obtain ⟨v1, vs1, d1, ds1, p1, q1, rfl, rfl, rfl, h1, r1⟩ := trodAll_cons r0
  obtain ⟨v2, vs2, d2, ds2, p2, q2, rfl, rfl, rfl, h2, r2⟩ := trodAll_cons r1
  obtain ⟨rfl, rfl, rfl⟩ := trodAll_nil r2
  obtain rfl : args = #[v0, v1, v2] := by cases args; simp_all
  obtain ⟨rfl, rfl⟩ := trodVars_none hV
  have k0 := h0
  have lt0 : ∀ x ∈ p0, x.block < W.heap.size := by obtain ⟨m, hm⟩ := k0; exact DataW.trod_lt m _ _ _ hm
  have k1 := h1
  have lt1 : ∀ x ∈ p1, x.block < W.heap.size := by obtain ⟨m, hm⟩ := k1; exact DataW.trod_lt m _ _ _ hm
  have k2 := h2
  have lt2 : ∀ x ∈ p2, x.block < W.heap.size := by obtain ⟨m, hm⟩ := k2; exact DataW.trod_lt m _ _ _ hm
  obtain ⟨s0a, s0b, s0c, s0d, rfl, ⟨b0a, b0b, b0c, b0d⟩⟩ := open_four Try.underlying23 (by kernel_rfl) cells23 (hval 0 23 v0 rfl rfl) h0
  obtain ⟨x1, rfl, he1, _, w1⟩ := open_int Try.underlying3 (hval 1 3 v1 rfl rfl) h1
  obtain ⟨x2, rfl, he2, _, w2⟩ := open_int Try.underlying3 (hval 2 3 v2 rfl rfl) h2
  refine (walk s0a s0b s0c s0d x1 x2 W b0a b0b b0c b0d (bounds_i64 w1) (bounds_i64 w2)).mono fun e W' ⟨he, bel⟩ => ?_
  subst he
  exact ⟨_, rfl, _, _, _, [], _, [], hW', trodAll_mk1 (shut_bool Try.underlying4 _), (trodAll_cons_mk (Below.trod laidOut (by kernel_rfl) (of_decide_eq_true (by kernel_rfl)) k0 bel lt0) (trodAll_cons_mk (Below.trod laidOut (by kernel_rfl) (of_decide_eq_true (by kernel_rfl)) k1 bel lt1) (trodAll_cons_mk (Below.trod laidOut (by kernel_rfl) (of_decide_eq_true (by kernel_rfl)) k2 bel lt2) trodAll_mk0))), rfl, bel.frame _, fun h => by cases h⟩

theorem proved : Rows.FnCMYKOffsetSaid :=
  OpenClaim.holds_of_wide 8 Try.f8 rfl rfl rfl rfl rfl rfl rfl ⟨rfl, rfl, rfl, rfl, rfl⟩ rfl rfl rfl rfl rfl (by kernel_rfl) Try.func8 (by kernel_rfl)
    (of_decide_eq_true (by kernel_rfl)) (by unfold Func.isWrapper; first | (rw [if_pos (by decide +kernel)]; kernel_rfl) | (rw [if_neg (by decide +kernel)]; exact ⟨rfl, rfl⟩))
    (fun os started H enc _ => lifted os started H enc)
#print axioms proved
end Go.Proofs.Ytkcjfcapponhpaa.lawCMYKOffset

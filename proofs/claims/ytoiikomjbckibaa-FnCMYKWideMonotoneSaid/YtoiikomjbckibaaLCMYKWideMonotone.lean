/-
  FnCMYKWideMonotone returns true for every two colors, and each argument reads afterwards as before. Conditions: none beyond the row's own.
-/
import Derived.Test.YtoiikomjbckibaaWide
import Derived.Test.YtoiikomjbckibaaLift
namespace Go.Proofs.Ytoiikomjbckibaa.lawCMYKWideMonotone
open Go.ChangeShapes Go.WideShapes Go.ChangeAt Go.RowKit

theorem ink_mono {n k m l : Int} (h1 : n % 256 ≤ m % 256) (h2 : k % 256 ≤ l % 256) : ink m l ≤ ink n k := by
  unfold ink
  have a1 := mod256 n
  have a2 := mod256 k
  have a3 := mod256 m
  have a4 := mod256 l
  have e : (65535 - m % 256 * 257) * (65535 - l % 256 * 257) ≤ (65535 - n % 256 * 257) * (65535 - k % 256 * 257) := Int.mul_le_mul (by omega) (by omega) (by omega) (by omega)
  exact Int.ediv_le_ediv (by omega) e

set_option maxHeartbeats 4000000 in
theorem walk (a b c d p q r s : Int) (w : World) (_ : -9223372036854775808 ≤ a ∧ a ≤ 9223372036854775807) (_ : -9223372036854775808 ≤ b ∧ b ≤ 9223372036854775807) (_ : -9223372036854775808 ≤ c ∧ c ≤ 9223372036854775807) (_ : -9223372036854775808 ≤ d ∧ d ≤ 9223372036854775807)
    (_ : -9223372036854775808 ≤ p ∧ p ≤ 9223372036854775807) (_ : -9223372036854775808 ≤ q ∧ q ≤ 9223372036854775807) (_ : -9223372036854775808 ≤ r ∧ r ≤ 9223372036854775807) (_ : -9223372036854775808 ≤ s ∧ s ≤ 9223372036854775807) :
    Calls Try.prog 5 #[.agg #[.int .i64 a, .int .i64 b, .int .i64 c, .int .i64 d], .agg #[.int .i64 p, .int .i64 q, .int .i64 r, .int .i64 s]] w fun e w' => e = .returned (.bool true) ∧ Grows w w' := by
  have hcase : decide (p % 256 < a % 256) = true ∨ (decide (p % 256 < a % 256) = false ∧ decide (q % 256 < b % 256) = true) ∨
      (decide (p % 256 < a % 256) = false ∧ decide (q % 256 < b % 256) = false ∧ decide (r % 256 < c % 256) = true) ∨
      (decide (p % 256 < a % 256) = false ∧ decide (q % 256 < b % 256) = false ∧ decide (r % 256 < c % 256) = false ∧ decide (s % 256 < d % 256) = true) ∨
      (decide (p % 256 < a % 256) = false ∧ decide (q % 256 < b % 256) = false ∧ decide (r % 256 < c % 256) = false ∧ decide (s % 256 < d % 256) = false) := by
    cases decide (p % 256 < a % 256) <;> cases decide (q % 256 < b % 256) <;> cases decide (r % 256 < c % 256) <;> cases decide (s % 256 < d % 256) <;> simp
  rcases hcase with t1 | ⟨t1, t2⟩ | ⟨t1, t2, t3⟩ | ⟨t1, t2, t3, t4⟩ | ⟨t1, t2, t3, t4⟩
  all_goals
    go_enter Try.func5, Try.ntmps5
    go_wp2_with fail
    apply wp_region_lex_lit (by kernel_rfl) (by kernel_rfl)
    iterate 34
      apply lex_pin
      · intro wq hgq hdq Kq hKq
        obtain ⟨hcq, _⟩ := hgq.cells
        go_wp2_with (go_at_call 18; refine (low_g _ _).mono ?_; rintro e wq' ⟨rfl, hgq'⟩)
        first | exact hKq _ (Grows.rfl' _) | exact hKq _ hgq'
      · kernel_rfl
    refine lex_end ?_
    intro w3 hg3 _
  · go_wp2
    go_ret
    exact ⟨rfl, (((Grows.rfl' w).alloc' _).alloc' _).drew'.step hg3⟩
  · go_wp2
    go_ret
    exact ⟨rfl, (((Grows.rfl' w).alloc' _).alloc' _).drew'.step hg3⟩
  · go_wp2
    go_ret
    exact ⟨rfl, (((Grows.rfl' w).alloc' _).alloc' _).drew'.step hg3⟩
  · go_wp2
    go_ret
    exact ⟨rfl, (((Grows.rfl' w).alloc' _).alloc' _).drew'.step hg3⟩
  · have HG : Hid (Grows w w3) := (((Grows.rfl' w).alloc' _).alloc' _).drew'.step hg3
    have m1 : a % 256 ≤ p % 256 := by simpa using t1
    have m2 : b % 256 ≤ q % 256 := by simpa using t2
    have m3 : c % 256 ≤ r % 256 := by simpa using t3
    have m4 : d % 256 ≤ s % 256 := by simpa using t4
    have H1 := Lib.hid (ink_mono m1 m4)
    have H2 := Lib.hid (ink_mono m2 m4)
    have H3 := Lib.hid (ink_mono m3 m4)
    clear t1 t2 t3 t4 m1 m2 m3 m4
    have q0 : w3.cell? ⟨w.heap.size, 0, none⟩ = some (.int .i64 a) := hg3.cell_some (by simp)
    have q1 : w3.cell? ⟨w.heap.size, 1, none⟩ = some (.int .i64 b) := hg3.cell_some (by simp)
    have q2 : w3.cell? ⟨w.heap.size, 2, none⟩ = some (.int .i64 c) := hg3.cell_some (by simp)
    have q3 : w3.cell? ⟨w.heap.size, 3, none⟩ = some (.int .i64 d) := hg3.cell_some (by simp)
    have p0 : w3.cell? ⟨w.heap.size + 1, 0, none⟩ = some (.int .i64 p) := hg3.cell_some (by simp)
    have p1 : w3.cell? ⟨w.heap.size + 1, 1, none⟩ = some (.int .i64 q) := hg3.cell_some (by simp)
    have p2 : w3.cell? ⟨w.heap.size + 1, 2, none⟩ = some (.int .i64 r) := hg3.cell_some (by simp)
    have p3 : w3.cell? ⟨w.heap.size + 1, 3, none⟩ = some (.int .i64 s) := hg3.cell_some (by simp)
    clear hg3
    go_wp2_with fail
    apply wp_region_lex_lit (by kernel_rfl) (by kernel_rfl)
    iterate 1
      apply lex_pin
      · intro wq hgq hdq Kq hKq
        have f0 := hgq.cell_some q0
        have f1 := hgq.cell_some q1
        have f2 := hgq.cell_some q2
        have f3 := hgq.cell_some q3
        go_wp2
        exact hKq _ (Grows.rfl' _)
      · kernel_rfl
    apply lex_pin
    · intro wq hgq hdq Kq hKq
      go_wp2_with fail
      refine (asColor_any _ _ _ _ _).mono ?_
      rintro e wq' ⟨rfl, hgq'⟩
      go_wp2_with fail
      exact hKq _ hgq'
    · kernel_rfl
    apply lex_any (Four (ink a d) (ink b d) (ink c d) 65535) (Four.keep)
    · intro wq hgq hdq Kq hKq
      go_wp2_with fail
      refine (cmykWide_any _ _ _ _ _).mono ?_
      rintro e wq' ⟨g1, rfl, hge1, hb1, hgq'⟩
      go_wp2_with fail
      exact hKq _ _ hgq' ⟨g1, rfl, hb1⟩
    intro v44
    simp only [Act.put, List.setIfInBounds_toArray, List.set_cons_succ, List.set_cons_zero]
    iterate 1
      apply lex_pinv
      · intro wq hgq hdq Kq hKq
        have f0 := hgq.cell_some p0
        have f1 := hgq.cell_some p1
        have f2 := hgq.cell_some p2
        have f3 := hgq.cell_some p3
        go_wp2
        exact hKq _ (Grows.rfl' _)
      simp only [Act.put, List.setIfInBounds_toArray, List.set_cons_succ, List.set_cons_zero]
    apply lex_pinv
    · intro wq hgq hdq Kq hKq
      go_wp2_with fail
      refine (asColor_any _ _ _ _ _).mono ?_
      rintro e wq' ⟨rfl, hgq'⟩
      go_wp2_with fail
      exact hKq _ hgq'
    simp only [Act.put, List.setIfInBounds_toArray, List.set_cons_succ, List.set_cons_zero]
    apply lex_any (Four (ink p s) (ink q s) (ink r s) 65535) (Four.keep)
    · intro wq hgq hdq Kq hKq
      go_wp2_with fail
      refine (cmykWide_any _ _ _ _ _).mono ?_
      rintro e wq' ⟨g1, rfl, hge1, hb1, hgq'⟩
      go_wp2_with fail
      exact hKq _ _ hgq' ⟨g1, rfl, hb1⟩
    intro v47
    simp only [Act.put, List.setIfInBounds_toArray, List.set_cons_succ, List.set_cons_zero]
    apply lex_any (Four (ink a d) (ink b d) (ink c d) 65535) Four.keep
    · intro wq hgq hdq Kq hKq
      have hf := hdq 2 _ rfl (by kernel_rfl)
      have HF := Lib.hid hf
      clear hf hdq
      go_wp2
      exact hKq _ _ (Grows.rfl' _) HF.out
    intro v5
    simp only [Act.put, List.setIfInBounds_toArray, List.set_cons_succ, List.set_cons_zero]
    apply lex_any (Four (ink p s) (ink q s) (ink r s) 65535) Four.keep
    · intro wq hgq hdq Kq hKq
      have hf := hdq 5 _ rfl (by kernel_rfl)
      have HF := Lib.hid hf
      clear hf hdq
      go_wp2
      exact hKq _ _ (Grows.rfl' _) HF.out
    intro v6
    simp only [Act.put, List.setIfInBounds_toArray, List.set_cons_succ, List.set_cons_zero]
    refine lex_end ?_
    intro w4 hg4 hd4
    obtain ⟨g5, rfl, hb5⟩ := hd4 6 _ rfl
    obtain ⟨g6, rfl, hb6⟩ := hd4 7 _ rfl
    clear hd4 q0 q1 q2 q3 p0 p1 p2 p3
    have HC : ∀ k : Nat, k < 4 → ∃ n m : Int, w4.cell? ⟨g5, k, none⟩ = some (.int .i64 n) ∧ w4.cell? ⟨g6, k, none⟩ = some (.int .i64 m) ∧ decide (n < m) = false := by
      intro k hk
      have h1 := H1.out
      have h2 := H2.out
      have h3 := H3.out
      simp only [World.cell?, hb5, hb6]
      rcases k with _ | _ | _ | _ | k
      · exact ⟨_, _, rfl, rfl, by simp; omega⟩
      · exact ⟨_, _, rfl, rfl, by simp; omega⟩
      · exact ⟨_, _, rfl, rfl, by simp; omega⟩
      · exact ⟨_, _, rfl, rfl, by simp⟩
      · omega
    have HH := Lib.hid HC
    have HG' : Hid (Grows w w4) := HG.out.drew'.step hg4
    clear HC hb5 hb6 hg4 HG H1 H2 H3
    go_wp2
    go_loopw [7, 58] (fun _ i wr => ∃ k : Nat, k ≤ 4 ∧ i = .int .i64 k ∧ Grows w4 wr) (fun _ i _ => 4 - (intOf i).toNat)
    case atStart => exact ⟨0, by omega, rfl, Grows.rfl' _⟩
    case round =>
      obtain ⟨k, hk, rfl, hgr⟩ := hrel
      by_cases hlt : k < 4
      · obtain ⟨n, m, hn, hm, hnm⟩ := HH.out k hlt
        have hn2 := hgr.cell_some hn
        have hm2 := hgr.cell_some hm
        clear hn hm
        have hb3 : decide ((k : Int) < 4) = true := by simp; omega
        go_wp2
        apply wp_region_lex_lit (by kernel_rfl) (by kernel_rfl)
        iterate 9
          apply lex_pin
          · intro wq hgq hdq Kq hKq
            have f0 := hgq.cell_some hn2
            have f1 := hgq.cell_some hm2
            go_wp2
            exact hKq _ (Grows.rfl' _)
          · kernel_rfl
        refine lex_end ?_
        intro w5 hg5 _
        go_wp2
        go_roundw
        case rel => exact ⟨k + 1, by omega, by go_num, hgr.drew'.step hg5⟩
        case measure => simp [intOf]; omega
      · go_wp2
        go_ret
        exact ⟨rfl, HG'.out.step hgr⟩

set_option linter.unusedVariables false
set_option maxRecDepth 100000 in
theorem lifted (os : Os) (started : os.Started) (H : Type) (enc : TypeId × Value → H) :
    ReturnsInHanded {} Try.checked os 5 .any (Rows.fnCMYKWideMonotoneSpec.pre6 enc Try.prog Try.f5 Rows.fnCMYKWideMonotoneRow.domain false) (Rows.fnCMYKWideMonotoneSpec.post enc Try.prog Try.f5 false true false false) := by
  refine returnsInHanded_of_change_sized (C := Try.checked) own started (by kernel_rfl) Try.func5
    (ChangeSpec.witness6 (enc := enc) (C := Try.checked) false ⟨#[], #[.agg #[.int .i64 0, .int .i64 0, .int .i64 0, .int .i64 0], .agg #[.int .i64 0, .int .i64 0, .int .i64 0, .int .i64 0]], []⟩ 8 (by kernel_rfl) (by kernel_rfl) (by kernel_rfl) (by kernel_rfl)) ?_
  intro W base args ds gs before hval0 hW hcnd hsz0 _
  have hval : ∀ (j : Nat) t v, Try.f5.params[j]? = some t → args[j]? = some v → Value.okWide Try.prog W .any base t v := hval0
  have hsz : (DataW.weightsEach Try.prog (Try.f5.params.toList ++ Rows.fnCMYKWideMonotoneSpec.plain.varTypes Try.prog) (ds ++ gs)).all (· ≤ reachBytes) = true := hsz0
  clear hsz0
  have hW' := hW
  obtain ⟨p, q, hA0, hV, rfl, hfz, hnd⟩ := hW
  have hA : DataW.TrodAll enc Try.prog W 0 (fun _ => true) true Try.f5.params.toList args.toList ds p := hA0
  rw [Try.params5] at hA hval hsz
  obtain ⟨v0, vs0, d0, ds0, p0, q0, hargs, rfl, rfl, h0, r0⟩ := trodAll_cons hA
  obtain ⟨v1, vs1, d1, ds1, p1, q1, rfl, rfl, rfl, h1, r1⟩ := trodAll_cons r0
  obtain ⟨rfl, rfl, rfl⟩ := trodAll_nil r1
  obtain rfl : args = #[v0, v1] := by cases args; simp_all
  obtain ⟨rfl, rfl⟩ := trodVars_none hV
  have k0 := h0
  have lt0 : ∀ x ∈ p0, x.block < W.heap.size := by obtain ⟨m, hm⟩ := k0; exact DataW.trod_lt m _ _ _ hm
  have k1 := h1
  have lt1 : ∀ x ∈ p1, x.block < W.heap.size := by obtain ⟨m, hm⟩ := k1; exact DataW.trod_lt m _ _ _ hm
  obtain ⟨s0a, s0b, s0c, s0d, rfl, ⟨b0a, b0b, b0c, b0d⟩⟩ := open_four Try.underlying28 (by kernel_rfl) cells28 (hval 0 28 v0 rfl rfl) h0
  obtain ⟨s1a, s1b, s1c, s1d, rfl, ⟨b1a, b1b, b1c, b1d⟩⟩ := open_four Try.underlying28 (by kernel_rfl) cells28 (hval 1 28 v1 rfl rfl) h1
  refine (walk s0a s0b s0c s0d s1a s1b s1c s1d W b0a b0b b0c b0d b1a b1b b1c b1d).mono fun e W' ⟨he, bel⟩ => ?_
  subst he
  exact ⟨_, rfl, _, _, _, [], _, [], hW', trodAll_mk1 (shut_bool Try.underlying4 _), (trodAll_cons_mk (Below.trod laidOut (by kernel_rfl) (of_decide_eq_true (by kernel_rfl)) k0 bel lt0) (trodAll_cons_mk (Below.trod laidOut (by kernel_rfl) (of_decide_eq_true (by kernel_rfl)) k1 bel lt1) trodAll_mk0)), rfl, bel.frame _, fun h => by cases h⟩

theorem proved : Rows.FnCMYKWideMonotoneSaid :=
  OpenClaim.holds_of_wide 5 Try.f5 rfl rfl rfl rfl rfl rfl rfl ⟨rfl, rfl, rfl, rfl, rfl⟩ rfl rfl rfl rfl rfl (by kernel_rfl) Try.func5 (by kernel_rfl)
    (of_decide_eq_true (by kernel_rfl)) (by unfold Func.isWrapper; first | (rw [if_pos (by decide +kernel)]; kernel_rfl) | (rw [if_neg (by decide +kernel)]; exact ⟨rfl, rfl⟩))
    (fun os started H enc _ => lifted os started H enc)
#print axioms proved
end Go.Proofs.Ytoiikomjbckibaa.lawCMYKWideMonotone

/-
  FnCMYKApart returns true for every input, and each argument reads afterwards as before. Conditions: none beyond the row's own.
-/
import Derived.Test.YtkcjfcapponhpaaOffset
import Derived.Test.YtkcjfcapponhpaaLift
namespace Go.Proofs.Ytkcjfcapponhpaa.lawCMYKApart
open Go.ChangeShapes Go.WideShapes Go.ChangeAt Go.RowKit
set_option linter.unusedVariables false

theorem zero_in (n : Nat) : ∀ m ∈ bytesOf n (fun _ => 0), -9223372036854775808 ≤ m ∧ m ≤ 9223372036854775807 := bytesOf_in (fun _ _ => by omega)

/-- Bytes of two pixels lie apart. -/
theorem apart_at {a b c d x y u v : Int} {k i j : Nat} (hk : 1 ≤ k) (hk4 : k ≤ 4) (hf : Fine a b c d) (h1 : Inn a b c d x y) (h2 : Inn a b c d u v) (hi : (y - b) * sd a c k + (x - a) * k = (i : Int)) (hj : (v - b) * sd a c k + (u - a) * k = (j : Int)) (hne : ¬ (x = u ∧ y = v)) : i + k ≤ j ∨ j + k ≤ i := by
  have hsd := sd_in hk4 hf
  obtain ⟨_, _, ⟨f5, f6⟩, ⟨f7, f8⟩⟩ := hf
  obtain ⟨i1, i2, i3, i4⟩ := h1
  obtain ⟨j1, j2, j3, j4⟩ := h2
  have row : ∀ p : Int, a ≤ p → p < c → 0 ≤ (p - a) * (k : Int) ∧ (p - a) * (k : Int) + k ≤ sd a c k := by
    intro p h1 h2
    unfold sd
    have e1 : (p - a + 1) * (k : Int) ≤ (c - a) * (k : Int) := Int.mul_le_mul_of_nonneg_right (by omega) (by omega)
    rw [Int.add_mul, Int.one_mul] at e1
    exact ⟨Int.mul_nonneg (by omega) (by omega), e1⟩
  have step : ∀ p q : Int, p < q → p * sd a c k + sd a c k ≤ q * sd a c k := by
    intro p q h
    have e1 : (p + 1) * sd a c k ≤ q * sd a c k := Int.mul_le_mul_of_nonneg_right (by omega) hsd.1
    rw [Int.add_mul, Int.one_mul] at e1
    exact e1
  have rx := row x i1 i2
  have ru := row u j1 j2
  rcases Int.lt_trichotomy y v with h | h | h
  · have := step (y - b) (v - b) (by omega)
    left; omega
  · subst h
    rcases Int.lt_trichotomy x u with h | h | h
    · have e : (x - a + 1) * (k : Int) ≤ (u - a) * (k : Int) := Int.mul_le_mul_of_nonneg_right (by omega) (by omega)
      rw [Int.add_mul, Int.one_mul] at e
      left; omega
    · exact absurd ⟨h, rfl⟩ hne
    · have e : (u - a + 1) * (k : Int) ≤ (x - a) * (k : Int) := Int.mul_le_mul_of_nonneg_right (by omega) (by omega)
      rw [Int.add_mul, Int.one_mul] at e
      right; omega
  · have := step (v - b) (y - b) (by omega)
    right; omega

set_option maxHeartbeats 1000000 in
theorem walk (a b c d x y u v : Int) (w : World) (ha : -9223372036854775808 ≤ a ∧ a ≤ 9223372036854775807) (hb : -9223372036854775808 ≤ b ∧ b ≤ 9223372036854775807) (hc : -9223372036854775808 ≤ c ∧ c ≤ 9223372036854775807) (hd : -9223372036854775808 ≤ d ∧ d ≤ 9223372036854775807)
    (hx : -9223372036854775808 ≤ x ∧ x ≤ 9223372036854775807) (hy : -9223372036854775808 ≤ y ∧ y ≤ 9223372036854775807) (hu : -9223372036854775808 ≤ u ∧ u ≤ 9223372036854775807) (hv : -9223372036854775808 ≤ v ∧ v ≤ 9223372036854775807) :
    Calls Try.prog 9 #[box4 a b c d, .int .i64 x, .int .i64 y, .int .i64 u, .int .i64 v] w fun e w' => e = .returned (.bool true) ∧ Grows w w' := by
  go_enter Try.func9, Try.ntmps9
  go_wp2_with fail
  refine (asRect_any _ _ _ _ _).mono ?_
  rintro e w1 ⟨rfl, hg1⟩
  have q0 : w1.cell? ⟨w.heap.size, 0, none⟩ = some (.int .i64 a) := hg1.cell_some (by simp)
  have q1 : w1.cell? ⟨w.heap.size, 1, none⟩ = some (.int .i64 b) := hg1.cell_some (by simp)
  have q2 : w1.cell? ⟨w.heap.size, 2, none⟩ = some (.int .i64 c) := hg1.cell_some (by simp)
  have q3 : w1.cell? ⟨w.heap.size, 3, none⟩ = some (.int .i64 d) := hg1.cell_some (by simp)
  have hsz : w.heap.size < w1.heap.size := cell_lt q0
  have HG : Hid (Grows w w1) := ((Grows.rfl' w).alloc' _).step hg1
  clear hg1
  by_cases hf : Fine a b c d
  · have HF := Lib.hid hf
    have htl := total_le (k := 4) (by omega) hf
    clear hf
    go_wp2_with fail
    refine (fine_yes _ _ _ _ _ HF.out).mono ?_
    rintro e w2 ⟨rfl, hg2⟩
    have r0 : w2.cell? ⟨w1.heap.size, 0, none⟩ = some (.int .i64 a) := hg2.cell_some (by simp)
    have r1 : w2.cell? ⟨w1.heap.size, 1, none⟩ = some (.int .i64 b) := hg2.cell_some (by simp)
    have r2 : w2.cell? ⟨w1.heap.size, 2, none⟩ = some (.int .i64 c) := hg2.cell_some (by simp)
    have r3 : w2.cell? ⟨w1.heap.size, 3, none⟩ = some (.int .i64 d) := hg2.cell_some (by simp)
    have HG2 : Hid (Grows w w2) := (HG.out.alloc' _).step hg2
    generalize w1.heap.size = bx at *
    clear hg2 q0 q1 q2 q3 HG
    by_cases hin : Inn a b c d x y
    · obtain ⟨i, hi, hil⟩ := inside_at (k := 4) HF.out (by omega) hin
      have HIN := Lib.hid hin
      have HE := Lib.hid hi
      clear hi hin
      go_wp2_with fail
      refine (has_yes _ _ _ _ _ _ _ HIN.out).mono ?_
      rintro e w3 ⟨rfl, hg3⟩
      have s0 := hg3.cell_some r0
      have s1 := hg3.cell_some r1
      have s2 := hg3.cell_some r2
      have s3 := hg3.cell_some r3
      have HG3 := Lib.hid (HG2.out.step hg3)
      clear hg3 r0 r1 r2 r3 HG2
      by_cases hin2 : Inn a b c d u v
      · obtain ⟨j, hj, hjl⟩ := inside_at (k := 4) HF.out (by omega) hin2
        have HIN2 := Lib.hid hin2
        have HE2 := Lib.hid hj
        clear hj hin2
        go_wp2_with fail
        refine (has_yes _ _ _ _ _ _ _ HIN2.out).mono ?_
        rintro e w4 ⟨rfl, hg4⟩
        have r0 := hg4.cell_some s0
        have r1 := hg4.cell_some s1
        have r2 := hg4.cell_some s2
        have r3 := hg4.cell_some s3
        have HG4 := Lib.hid (HG3.out.step hg4)
        clear hg4 s0 s1 s2 s3 HG3
        go_wp2_with fail
        by_cases hxy : x = u ∧ y = v
        · obtain ⟨rfl, rfl⟩ := hxy
          have hij : i = j := by have h1 := HE.out; have h2 := HE2.out; omega
          subst hij
          apply wp_region_lex_lit 10 (by kernel_rfl) (by kernel_rfl)
          iterate 10
            apply lex_pin
            · intro wq hgq hdq Kq hKq
              have f0 := hgq.cell_some r0
              have f1 := hgq.cell_some r1
              have f2 := hgq.cell_some r2
              have f3 := hgq.cell_some r3
              go_wp2_with ((go_at_call 21; refine (offset_in _ _ _ _ _ _ i _ HF.out HIN.out HE.out).mono ?_); rintro e wq' ⟨rfl, hgq'⟩)
              first | exact hKq _ (Grows.rfl' _) | exact hKq _ hgq'
            · kernel_rfl
          refine lex_end ?_
          intro w5 hg5 _
          have s0 := hg5.cell_some r0
          have s1 := hg5.cell_some r1
          have s2 := hg5.cell_some r2
          have s3 := hg5.cell_some r3
          have HG5 := Lib.hid (HG4.out.drew'.step hg5)
          clear hg5 r0 r1 r2 r3 HG4
          have hfp := field_pix
          have e1 : (x == x) = true := by simp
          have e2 : (y == y) = true := by simp
          go_wp2_with fail
          refine ((implNew_any _ _ _ _ _ HF.out).mono fun e w' h => h.isPic (by rw [bytesOf_length]; omega) (zero_in _)).mono ?_
          rintro e w6 ⟨v', rfl, hg6, p, rfl, hr⟩
          obtain ⟨A, cc, rfl, _⟩ := hr
          rw [bytesOf_length]
          have hlen : decide ((i : Int) + 4 ≤ (total a b c d 4 : Int)) = true := decide_eq_true (by omega)
          have hq : (i : Int) + 4 ≤ (total a b c d 4 : Int) := by omega
          go_wp2_with fail
          go_ret
          exact ⟨by first | rfl | exact ret_bool (by simp; omega), HG5.out.step hg6⟩
        · have hap := apart_at (by omega) (by omega) HF.out HIN.out HIN2.out HE.out HE2.out hxy
          have hxy' : (x == u) = false ∨ ((x == u) = true ∧ (y == v) = false) := by
            by_cases e1 : x = u
            · right; subst e1; simp; intro e; exact hxy ⟨rfl, e⟩
            · left; simpa using e1
          have HXY := Lib.hid hxy'
          clear hxy hxy'
          apply wp_region_lex_lit 10 (by kernel_rfl) (by kernel_rfl)
          iterate 4
            apply lex_pin
            · intro wq hgq hdq Kq hKq
              have f0 := hgq.cell_some r0
              have f1 := hgq.cell_some r1
              have f2 := hgq.cell_some r2
              have f3 := hgq.cell_some r3
              go_wp2_with ((go_at_call 21; refine (offset_in _ _ _ _ _ _ i _ HF.out HIN.out HE.out).mono ?_); rintro e wq' ⟨rfl, hgq'⟩)
              first | exact hKq _ (Grows.rfl' _) | exact hKq _ hgq'
            · kernel_rfl
          iterate 6
            apply lex_pin
            · intro wq hgq hdq Kq hKq
              have f0 := hgq.cell_some r0
              have f1 := hgq.cell_some r1
              have f2 := hgq.cell_some r2
              have f3 := hgq.cell_some r3
              go_wp2_with ((go_at_call 21; refine (offset_in _ _ _ _ _ _ j _ HF.out HIN2.out HE2.out).mono ?_); rintro e wq' ⟨rfl, hgq'⟩)
              first | exact hKq _ (Grows.rfl' _) | exact hKq _ hgq'
            · kernel_rfl
          refine lex_end ?_
          intro w5 hg5 _
          have HG5 := Lib.hid (HG4.out.drew'.step hg5)
          clear hg5 r0 r1 r2 r3 HG4
          rcases HXY.out with e1 | ⟨e1, e2⟩ <;> clear HXY <;> rcases hap with h | h
          all_goals
            (try first | (have t1 : decide ((i : Int) + 4 ≤ j) = true := decide_eq_true (by omega)) | (have t1 : decide ((i : Int) + 4 ≤ j) = false := decide_eq_false (by omega)))
            (try first | (have t2 : decide ((j : Int) + 4 ≤ i) = true := decide_eq_true (by omega)) | (have t2 : decide ((j : Int) + 4 ≤ i) = false := decide_eq_false (by omega)))
            go_wp2_with fail
            go_ret
            exact ⟨by first | rfl | exact ret_bool (by simp; omega), HG5.out⟩
      · have HIN2 := Lib.hid hin2
        clear hin2
        go_wp2_with fail
        refine (has_no _ _ _ _ _ _ _ HIN2.out).mono ?_
        rintro e w4 ⟨rfl, hg4⟩
        go_wp2_with fail
        go_ret
        exact ⟨rfl, HG3.out.step hg4⟩
    · have HIN := Lib.hid hin
      clear hin
      go_wp2_with fail
      refine (has_no _ _ _ _ _ _ _ HIN.out).mono ?_
      rintro e w3 ⟨rfl, hg3⟩
      go_wp2_with fail
      go_ret
      exact ⟨rfl, HG2.out.step hg3⟩
  · have HF := Lib.hid hf
    clear hf
    go_wp2_with fail
    refine (fine_no _ _ _ _ _ HF.out ha hb).mono ?_
    rintro e w2 ⟨rfl, hg2⟩
    go_wp2_with fail
    go_ret
    exact ⟨rfl, (HG.out.alloc' _).step hg2⟩

set_option linter.unusedVariables false
set_option maxRecDepth 100000 in
theorem lifted (os : Os) (started : os.Started) (H : Type) (enc : TypeId × Value → H) :
    ReturnsInHanded {} Try.checked os 9 .any (Rows.fnCMYKApartSpec.pre6 enc Try.prog Try.f9 Rows.fnCMYKApartRow.domain false) (Rows.fnCMYKApartSpec.post enc Try.prog Try.f9 false true false false) := by
  refine returnsInHanded_of_change_sized (C := Try.checked) own started (by kernel_rfl) Try.func9
    (ChangeSpec.witness6 (enc := enc) (C := Try.checked) false ⟨#[], #[.agg #[.int .i64 0, .int .i64 0, .int .i64 0, .int .i64 0], .int .i64 0, .int .i64 0, .int .i64 0, .int .i64 0], []⟩ 8 (by kernel_rfl) (by kernel_rfl) (by kernel_rfl) (by kernel_rfl)) ?_
  intro W base args ds gs before hval0 hW hcnd hsz0 _
  have hval : ∀ (j : Nat) t v, Try.f9.params[j]? = some t → args[j]? = some v → Value.okWide Try.prog W .any base t v := hval0
  have hsz : (DataW.weightsEach Try.prog (Try.f9.params.toList ++ Rows.fnCMYKApartSpec.plain.varTypes Try.prog) (ds ++ gs)).all (· ≤ reachBytes) = true := hsz0
  clear hsz0
  have hW' := hW
  obtain ⟨p, q, hA0, hV, rfl, hfz, hnd⟩ := hW
  have hA : DataW.TrodAll enc Try.prog W 0 (fun _ => true) true Try.f9.params.toList args.toList ds p := hA0
  rw [Try.params9] at hA hval hsz
  obtain ⟨v0, vs0, d0, ds0, p0, q0, hargs, rfl, rfl, h0, r0⟩ := trodAll_cons hA
  obtain ⟨v1, vs1, d1, ds1, p1, q1, rfl, rfl, rfl, h1, r1⟩ := trodAll_cons r0
  obtain ⟨v2, vs2, d2, ds2, p2, q2, rfl, rfl, rfl, h2, r2⟩ := trodAll_cons r1
  obtain ⟨v3, vs3, d3, ds3, p3, q3, rfl, rfl, rfl, h3, r3⟩ := trodAll_cons r2
  obtain ⟨v4, vs4, d4, ds4, p4, q4, rfl, rfl, rfl, h4, r4⟩ := trodAll_cons r3
  obtain ⟨rfl, rfl, rfl⟩ := trodAll_nil r4
  obtain rfl : args = #[v0, v1, v2, v3, v4] := by cases args; simp_all
  obtain ⟨rfl, rfl⟩ := trodVars_none hV
  have k0 := h0
  have lt0 : ∀ x ∈ p0, x.block < W.heap.size := by obtain ⟨m, hm⟩ := k0; exact DataW.trod_lt m _ _ _ hm
  have k1 := h1
  have lt1 : ∀ x ∈ p1, x.block < W.heap.size := by obtain ⟨m, hm⟩ := k1; exact DataW.trod_lt m _ _ _ hm
  have k2 := h2
  have lt2 : ∀ x ∈ p2, x.block < W.heap.size := by obtain ⟨m, hm⟩ := k2; exact DataW.trod_lt m _ _ _ hm
  have k3 := h3
  have lt3 : ∀ x ∈ p3, x.block < W.heap.size := by obtain ⟨m, hm⟩ := k3; exact DataW.trod_lt m _ _ _ hm
  have k4 := h4
  have lt4 : ∀ x ∈ p4, x.block < W.heap.size := by obtain ⟨m, hm⟩ := k4; exact DataW.trod_lt m _ _ _ hm
  obtain ⟨s0a, s0b, s0c, s0d, rfl, ⟨b0a, b0b, b0c, b0d⟩⟩ := open_four Try.underlying23 (by kernel_rfl) cells23 (hval 0 23 v0 rfl rfl) h0
  obtain ⟨x1, rfl, he1, _, w1⟩ := open_int Try.underlying3 (hval 1 3 v1 rfl rfl) h1
  obtain ⟨x2, rfl, he2, _, w2⟩ := open_int Try.underlying3 (hval 2 3 v2 rfl rfl) h2
  obtain ⟨x3, rfl, he3, _, w3⟩ := open_int Try.underlying3 (hval 3 3 v3 rfl rfl) h3
  obtain ⟨x4, rfl, he4, _, w4⟩ := open_int Try.underlying3 (hval 4 3 v4 rfl rfl) h4
  refine (walk s0a s0b s0c s0d x1 x2 x3 x4 W b0a b0b b0c b0d (bounds_i64 w1) (bounds_i64 w2) (bounds_i64 w3) (bounds_i64 w4)).mono fun e W' ⟨he, bel⟩ => ?_
  subst he
  exact ⟨_, rfl, _, _, _, [], _, [], hW', trodAll_mk1 (shut_bool Try.underlying4 _), (trodAll_cons_mk (Below.trod laidOut (by kernel_rfl) (of_decide_eq_true (by kernel_rfl)) k0 bel lt0) (trodAll_cons_mk (Below.trod laidOut (by kernel_rfl) (of_decide_eq_true (by kernel_rfl)) k1 bel lt1) (trodAll_cons_mk (Below.trod laidOut (by kernel_rfl) (of_decide_eq_true (by kernel_rfl)) k2 bel lt2) (trodAll_cons_mk (Below.trod laidOut (by kernel_rfl) (of_decide_eq_true (by kernel_rfl)) k3 bel lt3) (trodAll_cons_mk (Below.trod laidOut (by kernel_rfl) (of_decide_eq_true (by kernel_rfl)) k4 bel lt4) trodAll_mk0))))), rfl, bel.frame _, fun h => by cases h⟩

theorem proved : Rows.FnCMYKApartSaid :=
  OpenClaim.holds_of_wide 9 Try.f9 rfl rfl rfl rfl rfl rfl rfl ⟨rfl, rfl, rfl, rfl, rfl⟩ rfl rfl rfl rfl rfl (by kernel_rfl) Try.func9 (by kernel_rfl)
    (of_decide_eq_true (by kernel_rfl)) (by unfold Func.isWrapper; first | (rw [if_pos (by decide +kernel)]; kernel_rfl) | (rw [if_neg (by decide +kernel)]; exact ⟨rfl, rfl⟩))
    (fun os started H enc _ => lifted os started H enc)
#print axioms proved
end Go.Proofs.Ytkcjfcapponhpaa.lawCMYKApart

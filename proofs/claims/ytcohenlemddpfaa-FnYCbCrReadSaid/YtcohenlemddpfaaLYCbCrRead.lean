/-
  FnYCbCrRead returns true for every input, and each argument reads afterwards as before. Conditions: none beyond the row's own.
-/
import Derived.Test.YtcohenlemddpfaaYRSpec
import Derived.Test.YtcohenlemddpfaaLift
import Derived.Deep.Cut
namespace Go.Proofs.Ytcohenlemddpfaa.lawYCbCrRead
open Go.ChangeShapes Go.WideShapes Go.ChangeAt Go.RowKit
set_option linter.unusedVariables false

set_option maxRecDepth 20000 in
set_option maxHeartbeats 4000000 in
theorem walk (a b c d r : Int) (vy : Value) (ys : List Int) (vb : Value) (bs : List Int) (vr : Value) (rs : List Int) (x y : Int) (w : World) (ha : I64 a) (hb : I64 b) (hc : I64 c) (hd : I64 d) (hr : I64 r) (h1 : RdI w vy ys) (h2 : RdI w vb bs) (h3 : RdI w vr rs) (hx : I64 x) (hy : I64 y) :
    Calls Try.prog 3 #[box4 a b c d, .int .i64 r, vy, vb, vr, .int .i64 x, .int .i64 y] w fun e w' => e = .returned (.bool true) ∧ Grows w w' := by
  have H1 := Lib.hid h1
  have H2 := Lib.hid h2
  have H3 := Lib.hid h3
  obtain ⟨A1, c1, rfl, _⟩ := h1
  obtain ⟨A2, c2, rfl, _⟩ := h2
  obtain ⟨A3, c3, rfl, _⟩ := h3
  by_cases hp : PlainY a b c d r
  · have HP := Lib.hid hp
    have hn0 := hp.nY_eq.2
    have hn1 := hp.nC_eq.2
    by_cases hin : Inn a b c d x y
    · have HIN := Lib.hid hin
      have hil := (hp.yAt_eq hin).2
      have hkl := (hp.cAt_eq hin).2
      have HRD : Hid (∀ W, Grows w W → Calls Try.prog 11 #[box4 a b c d, .int .i64 r, (.slice A1 ys.length c1), (.slice A2 bs.length c2), (.slice A3 rs.length c3), .int .i64 x, .int .i64 y] W fun e w' => e = .returned (.agg #[.int .i64 (byteAt ys (yAt a b c x y)), .int .i64 (byteAt bs (cAt a b c r x y)), .int .i64 (byteAt rs (cAt a b c r x y)), .int .i64 0]) ∧ Grows W w') := fun W hW => (readY_any a b c d r x y _ _ _ ys bs rs W HP.out (H1.out.grows hW) (H2.out.grows hW) (H3.out.grows hW)).mono fun e w' ⟨he, hg⟩ => ⟨by rw [he, colY_in hin, colC_in hin, colC_in hin], hg⟩
      have HI : Hid (∀ W, Calls Try.prog 12 #[box4 a b c d, .int .i64 r, .int .i64 x, .int .i64 y] W fun e w' => e = .returned (.int .i64 (yAt a b c x y)) ∧ Grows W w') := fun W => implYOff_any _ _ _ _ _ _ _ W HP.out HIN.out
      have HK : Hid (∀ W, Calls Try.prog 13 #[box4 a b c d, .int .i64 r, .int .i64 x, .int .i64 y] W fun e w' => e = .returned (.int .i64 (cAt a b c r x y)) ∧ Grows W w') := fun W => implCOff_any _ _ _ _ _ _ _ W HP.out HIN.out
      clear hin hp
      generalize yAt a b c x y = i at *
      generalize cAt a b c r x y = k at *
      have HS1 : Hid (∀ W, Grows w W → Calls Try.prog 14 #[.slice A1 ys.length c1, .int .i64 (i : Nat)] W fun e w' => e = .returned (.int .i64 (byteAt ys i)) ∧ Grows W w') := fun W hW => sample_any _ ys i W (by omega) (H1.out.grows hW)
      have HS2 : Hid (∀ W, Grows w W → Calls Try.prog 14 #[.slice A2 bs.length c2, .int .i64 (k : Nat)] W fun e w' => e = .returned (.int .i64 (byteAt bs k)) ∧ Grows W w') := fun W hW => sample_any _ bs k W (by omega) (H2.out.grows hW)
      have HS3 : Hid (∀ W, Grows w W → Calls Try.prog 14 #[.slice A3 rs.length c3, .int .i64 (k : Nat)] W fun e w' => e = .returned (.int .i64 (byteAt rs k)) ∧ Grows W w') := fun W hW => sample_any _ rs k W (by omega) (H3.out.grows hW)
      generalize byteAt ys i = u0 at *
      generalize byteAt bs k = u1 at *
      generalize byteAt rs k = u2 at *
      go_enter Try.func3, Try.ntmps3
      go_wp2_with fail
      refine (asRect_any _ _ _ _ _).mono ?_
      rintro e w1 ⟨rfl, hg1⟩
      have q0 : w1.cell? ⟨w.heap.size, 0, none⟩ = some (.int .i64 a) := hg1.cell_some (by simp)
      have q1 : w1.cell? ⟨w.heap.size, 1, none⟩ = some (.int .i64 b) := hg1.cell_some (by simp)
      have q2 : w1.cell? ⟨w.heap.size, 2, none⟩ = some (.int .i64 c) := hg1.cell_some (by simp)
      have q3 : w1.cell? ⟨w.heap.size, 3, none⟩ = some (.int .i64 d) := hg1.cell_some (by simp)
      have HG : Hid (Grows w w1) := ((Grows.rfl' w).alloc' _).step hg1
      clear hg1
      go_upto_region 2 with fail
      have HB : Hid (BoxAt (w1.alloc (.cells #[.int .i64 a, .int .i64 b, .int .i64 c, .int .i64 d] 25)) w1.heap.size a b c d) := ⟨cell_top rfl rfl, cell_top rfl rfl, cell_top rfl rfl, cell_top rfl rfl⟩
      have hgw : Grows w1 (w1.alloc (.cells #[.int .i64 a, .int .i64 b, .int .i64 c, .int .i64 d] 25)) := (Grows.rfl' _).alloc' _
      have HR0 : Hid (BoxAt (w1.alloc (.cells #[.int .i64 a, .int .i64 b, .int .i64 c, .int .i64 d] 25)) w.heap.size a b c d) := BoxAt.grows ⟨q0, q1, q2, q3⟩ hgw
      replace HG := Lib.hid (HG.out.step hgw)
      clear hgw q0 q1 q2 q3
      generalize w1.alloc (.cells #[.int .i64 a, .int .i64 b, .int .i64 c, .int .i64 d] 25) = w2 at *
      generalize w1.heap.size = bx at *
      obtain ⟨q0, q1, q2, q3⟩ := HR0.out
      obtain ⟨s0, s1, s2, s3⟩ := HB.out
      go_wp2_with fail
      refine (plainY_yes _ _ _ _ _ _ HP.out).mono ?_
      rintro e w3 ⟨rfl, hg3⟩
      replace HR0 := Lib.hid (HR0.out.grows hg3)
      replace HB := Lib.hid (HB.out.grows hg3)
      replace HG := Lib.hid (HG.out.step hg3)
      clear q0 q1 q2 q3 s0 s1 s2 s3
      obtain ⟨q0, q1, q2, q3⟩ := HR0.out
      obtain ⟨s0, s1, s2, s3⟩ := HB.out
      clear hg3
      go_wp2_with fail
      refine (has_yes _ _ _ _ _ _ _ HIN.out).mono ?_
      rintro e w4 ⟨rfl, hg4⟩
      replace HR0 := Lib.hid (HR0.out.grows hg4)
      replace HB := Lib.hid (HB.out.grows hg4)
      replace HG := Lib.hid (HG.out.step hg4)
      clear q0 q1 q2 q3 s0 s1 s2 s3
      obtain ⟨q0, q1, q2, q3⟩ := HR0.out
      obtain ⟨s0, s1, s2, s3⟩ := HB.out
      clear hg4
      go_wp2_with fail
      refine (HRD.out _ HG.out).mono ?_
      rintro e w5 ⟨rfl, hg5⟩
      replace HR0 := Lib.hid (HR0.out.grows hg5)
      replace HB := Lib.hid (HB.out.grows hg5)
      replace HG := Lib.hid (HG.out.step hg5)
      clear q0 q1 q2 q3 s0 s1 s2 s3
      obtain ⟨q0, q1, q2, q3⟩ := HR0.out
      obtain ⟨s0, s1, s2, s3⟩ := HB.out
      clear hg5
      go_upto_region 5 with fail
      have HC1 : Hid (BoxAt (w5.alloc (.cells #[.int .i64 u0, .int .i64 u1, .int .i64 u2, .int .i64 0] 30)) w5.heap.size u0 u1 u2 0) := ⟨cell_top rfl rfl, cell_top rfl rfl, cell_top rfl rfl, cell_top rfl rfl⟩
      have hgw : Grows w5 (w5.alloc (.cells #[.int .i64 u0, .int .i64 u1, .int .i64 u2, .int .i64 0] 30)) := (Grows.rfl' _).alloc' _
      replace HR0 := Lib.hid (HR0.out.grows hgw)
      replace HB := Lib.hid (HB.out.grows hgw)
      replace HG := Lib.hid (HG.out.step hgw)
      clear q0 q1 q2 q3 s0 s1 s2 s3
      obtain ⟨q0, q1, q2, q3⟩ := HR0.out
      obtain ⟨s0, s1, s2, s3⟩ := HB.out
      clear hgw
      generalize w5.alloc (.cells #[.int .i64 u0, .int .i64 u1, .int .i64 u2, .int .i64 0] 30) = w6 at *
      generalize w5.heap.size = cb1 at *
      clear q0 q1 q2 q3 s0 s1 s2 s3
      apply wp_region_lex_lit 12 (by kernel_rfl) (by kernel_rfl)
      iterate 12
        apply lex_pin
        · intro wq hgq hdq Kq hKq
          obtain ⟨s0, s1, s2, s3⟩ := HB.out.grows ((Grows.rfl' _).drew'.step hgq)
          obtain ⟨q0, q1, q2, q3⟩ := HR0.out.grows ((Grows.rfl' _).drew'.step hgq)
          go_wp2_with ((first | (go_at_call 12; refine (HI.out _).mono ?_) | (go_at_call 13; refine (HK.out _).mono ?_)); rintro e wq' ⟨rfl, hgq'⟩)
          first | exact hKq _ (Grows.rfl' _) | exact hKq _ hgq'
        · kernel_rfl
      refine lex_end ?_
      intro w7 hg7 _
      have HG67 : Hid (Grows w6 w7) := (Grows.rfl' _).drew'.step hg7
      clear hg7
      replace HR0 := Lib.hid (HR0.out.grows HG67.out)
      replace HB := Lib.hid (HB.out.grows HG67.out)
      replace HC1 := Lib.hid (HC1.out.grows HG67.out)
      replace HG := Lib.hid (HG.out.step HG67.out)
      go_wp2_with fail
      refine (HS1.out _ HG.out).mono ?_
      rintro e w8 ⟨rfl, hg8⟩
      replace HB := Lib.hid (HB.out.grows hg8)
      replace HC1 := Lib.hid (HC1.out.grows hg8)
      replace HG := Lib.hid (HG.out.step hg8)
      clear hg8
      go_wp2_with fail
      refine (HS2.out _ HG.out).mono ?_
      rintro e w9 ⟨rfl, hg9⟩
      replace HB := Lib.hid (HB.out.grows hg9)
      replace HC1 := Lib.hid (HC1.out.grows hg9)
      replace HG := Lib.hid (HG.out.step hg9)
      clear hg9
      go_wp2_with fail
      refine (HS3.out _ HG.out).mono ?_
      rintro e wa ⟨rfl, hga⟩
      replace HB := Lib.hid (HB.out.grows hga)
      replace HC1 := Lib.hid (HC1.out.grows hga)
      replace HG := Lib.hid (HG.out.step hga)
      clear hga HG67
      go_upto_region 7 with fail
      have HC2 : Hid (BoxAt (wa.alloc (.cells #[.int .i64 u0, .int .i64 u1, .int .i64 u2, .int .i64 0] 30)) wa.heap.size u0 u1 u2 0) := ⟨cell_top rfl rfl, cell_top rfl rfl, cell_top rfl rfl, cell_top rfl rfl⟩
      have hgw : Grows wa (wa.alloc (.cells #[.int .i64 u0, .int .i64 u1, .int .i64 u2, .int .i64 0] 30)) := (Grows.rfl' _).alloc' _
      replace HB := Lib.hid (HB.out.grows hgw)
      replace HC1 := Lib.hid (HC1.out.grows hgw)
      replace HG := Lib.hid (HG.out.step hgw)
      clear hgw
      generalize wa.alloc (.cells #[.int .i64 u0, .int .i64 u1, .int .i64 u2, .int .i64 0] 30) = wb at *
      generalize wa.heap.size = cb2 at *
      apply wp_region_lex_lit 12 (by kernel_rfl) (by kernel_rfl)
      iterate 6
        apply lex_pin
        · intro wq hgq hdq Kq hKq
          obtain ⟨s0, s1, s2, s3⟩ := HB.out.grows ((Grows.rfl' _).drew'.step hgq)
          obtain ⟨d0, d1, d2, d3⟩ := HC1.out.grows ((Grows.rfl' _).drew'.step hgq)
          obtain ⟨e0, e1, e2, e3⟩ := HC2.out.grows ((Grows.rfl' _).drew'.step hgq)
          go_wp2
          exact hKq _ (Grows.rfl' _)
        · kernel_rfl
      apply lex_any (HasRectP a b c d) (HasRectP.keep)
      · intro wq hgq hdq Kq hKq
        go_wp2_with fail
        refine ((implNewY_any _ _ _ _ _ _ HP.out).mono fun e w' h => NewPl.hasRect h).mono ?_
        rintro e wq' ⟨v, rfl, hgq', hh⟩
        go_wp2_with fail
        exact hKq _ _ hgq' hh
      intro vn
      simp only [Act.put, List.setIfInBounds_toArray, List.set_cons_succ, List.set_cons_zero]
      apply lex_pinv (box4 a b c d)
      · intro wq hgq hdq Kq hKq
        obtain ⟨ys', cs', r', p1', p2', p3', rfl⟩ := hdq 6 _ rfl (by kernel_rfl)
        have hfr := field_rectP
        go_wp2
        exact hKq _ (Grows.rfl' _)
      simp only [Act.put, List.setIfInBounds_toArray, List.set_cons_succ, List.set_cons_zero]
      iterate 4
        apply lex_pinv
        · intro wq hgq hdq Kq hKq
          obtain ⟨s0, s1, s2, s3⟩ := HB.out.grows ((Grows.rfl' _).drew'.step hgq)
          go_wp2
          exact hKq _ (Grows.rfl' _)
        simp only [Act.put, List.setIfInBounds_toArray, List.set_cons_succ, List.set_cons_zero]
      refine lex_end ?_
      intro w8 hg8 _
      go_wp2
      go_ret
      exact ⟨rfl, HG.out.drew'.step hg8⟩
    · have HIN := Lib.hid hin
      clear hin hp
      go_enter Try.func3, Try.ntmps3
      go_wp2_with fail
      refine (asRect_any _ _ _ _ _).mono ?_
      rintro e w1 ⟨rfl, hg1⟩
      have q0 : w1.cell? ⟨w.heap.size, 0, none⟩ = some (.int .i64 a) := hg1.cell_some (by simp)
      have q1 : w1.cell? ⟨w.heap.size, 1, none⟩ = some (.int .i64 b) := hg1.cell_some (by simp)
      have q2 : w1.cell? ⟨w.heap.size, 2, none⟩ = some (.int .i64 c) := hg1.cell_some (by simp)
      have q3 : w1.cell? ⟨w.heap.size, 3, none⟩ = some (.int .i64 d) := hg1.cell_some (by simp)
      have HG : Hid (Grows w w1) := ((Grows.rfl' w).alloc' _).step hg1
      clear hg1
      go_upto_region 2 with fail
      have HB : Hid (BoxAt (w1.alloc (.cells #[.int .i64 a, .int .i64 b, .int .i64 c, .int .i64 d] 25)) w1.heap.size a b c d) := ⟨cell_top rfl rfl, cell_top rfl rfl, cell_top rfl rfl, cell_top rfl rfl⟩
      have hgw : Grows w1 (w1.alloc (.cells #[.int .i64 a, .int .i64 b, .int .i64 c, .int .i64 d] 25)) := (Grows.rfl' _).alloc' _
      have HR0 : Hid (BoxAt (w1.alloc (.cells #[.int .i64 a, .int .i64 b, .int .i64 c, .int .i64 d] 25)) w.heap.size a b c d) := BoxAt.grows ⟨q0, q1, q2, q3⟩ hgw
      replace HG := Lib.hid (HG.out.step hgw)
      clear hgw q0 q1 q2 q3
      generalize w1.alloc (.cells #[.int .i64 a, .int .i64 b, .int .i64 c, .int .i64 d] 25) = w2 at *
      generalize w1.heap.size = bx at *
      obtain ⟨q0, q1, q2, q3⟩ := HR0.out
      obtain ⟨s0, s1, s2, s3⟩ := HB.out
      go_wp2_with fail
      refine (plainY_yes _ _ _ _ _ _ HP.out).mono ?_
      rintro e w3 ⟨rfl, hg3⟩
      replace HR0 := Lib.hid (HR0.out.grows hg3)
      replace HB := Lib.hid (HB.out.grows hg3)
      replace HG := Lib.hid (HG.out.step hg3)
      clear q0 q1 q2 q3 s0 s1 s2 s3
      obtain ⟨q0, q1, q2, q3⟩ := HR0.out
      obtain ⟨s0, s1, s2, s3⟩ := HB.out
      clear hg3
      go_wp2_with fail
      refine (has_no _ _ _ _ _ _ _ HIN.out).mono ?_
      rintro e w4 ⟨rfl, hg4⟩
      go_wp2_with fail
      go_ret
      exact ⟨rfl, HG.out.step hg4⟩
  · have HP := Lib.hid hp
    clear hp
    go_enter Try.func3, Try.ntmps3
    go_wp2_with fail
    refine (asRect_any _ _ _ _ _).mono ?_
    rintro e w1 ⟨rfl, hg1⟩
    have q0 : w1.cell? ⟨w.heap.size, 0, none⟩ = some (.int .i64 a) := hg1.cell_some (by simp)
    have q1 : w1.cell? ⟨w.heap.size, 1, none⟩ = some (.int .i64 b) := hg1.cell_some (by simp)
    have q2 : w1.cell? ⟨w.heap.size, 2, none⟩ = some (.int .i64 c) := hg1.cell_some (by simp)
    have q3 : w1.cell? ⟨w.heap.size, 3, none⟩ = some (.int .i64 d) := hg1.cell_some (by simp)
    have HG : Hid (Grows w w1) := ((Grows.rfl' w).alloc' _).step hg1
    have hsz : w.heap.size < w1.heap.size := cell_lt q0
    clear hg1
    go_wp2_with fail
    refine (plainY_no _ _ _ _ _ _ HP.out ha hb).mono ?_
    rintro e w2 ⟨rfl, hg2⟩
    go_wp2_with fail
    go_ret
    exact ⟨rfl, (HG.out.alloc' _).step hg2⟩

set_option linter.unusedVariables false
set_option maxRecDepth 100000 in
theorem lifted (os : Os) (started : os.Started) (H : Type) (enc : TypeId × Value → H) :
    ReturnsInHanded {} Try.checked os 3 .any (Rows.fnYCbCrReadSpec.pre6 enc Try.prog Try.f3 Rows.fnYCbCrReadRow.domain false) (Rows.fnYCbCrReadSpec.post enc Try.prog Try.f3 false true false false) := by
  refine returnsInHanded_of_change_sized (C := Try.checked) own started (by kernel_rfl) Try.func3
    (ChangeSpec.witness6 (enc := enc) (C := Try.checked) false ⟨#[], #[.agg #[.int .i64 0, .int .i64 0, .int .i64 0, .int .i64 0], .int .i64 0, .slice none 0 0, .slice none 0 0, .slice none 0 0, .int .i64 0, .int .i64 0], []⟩ 8 (by kernel_rfl) (by kernel_rfl) (by kernel_rfl) (by kernel_rfl)) ?_
  intro W base args ds gs before hval0 hW hcnd hsz0 _
  have hval : ∀ (j : Nat) t v, Try.f3.params[j]? = some t → args[j]? = some v → Value.okWide Try.prog W .any base t v := hval0
  have hsz : (DataW.weightsEach Try.prog (Try.f3.params.toList ++ Rows.fnYCbCrReadSpec.plain.varTypes Try.prog) (ds ++ gs)).all (· ≤ reachBytes) = true := hsz0
  clear hsz0
  have hW' := hW
  obtain ⟨p, q, hA0, hV, rfl, hfz, hnd⟩ := hW
  have hA : DataW.TrodAll enc Try.prog W 0 (fun _ => true) true Try.f3.params.toList args.toList ds p := hA0
  rw [Try.params3] at hA hval hsz
  obtain ⟨v0, vs0, d0, ds0, p0, q0, hargs, rfl, rfl, h0, r0⟩ := trodAll_cons hA
  obtain ⟨v1, vs1, d1, ds1, p1, q1, rfl, rfl, rfl, h1, r1⟩ := trodAll_cons r0
  obtain ⟨v2, vs2, d2, ds2, p2, q2, rfl, rfl, rfl, h2, r2⟩ := trodAll_cons r1
  obtain ⟨v3, vs3, d3, ds3, p3, q3, rfl, rfl, rfl, h3, r3⟩ := trodAll_cons r2
  obtain ⟨v4, vs4, d4, ds4, p4, q4, rfl, rfl, rfl, h4, r4⟩ := trodAll_cons r3
  obtain ⟨v5, vs5, d5, ds5, p5, q5, rfl, rfl, rfl, h5, r5⟩ := trodAll_cons r4
  obtain ⟨v6, vs6, d6, ds6, p6, q6, rfl, rfl, rfl, h6, r6⟩ := trodAll_cons r5
  obtain ⟨rfl, rfl, rfl⟩ := trodAll_nil r6
  obtain rfl : args = #[v0, v1, v2, v3, v4, v5, v6] := by cases args; simp_all
  obtain ⟨rfl, rfl⟩ := trodVars_none hV
  have k0 := h0
  have lt0 : ∀ x ∈ p0, x.block < W.heap.size := by obtain ⟨m, hm⟩ := k0; exact DataW.trod_lt m _ _ _ hm
  have k1 := h1
  have lt1 : ∀ x ∈ p1, x.block < W.heap.size := by obtain ⟨m, hm⟩ := k1; exact DataW.trod_lt m _ _ _ hm
  have k2 := h2
  have lt2 : ∀ x ∈ p2, x.block < W.heap.size := by obtain ⟨m, hm⟩ := k2; exact DataW.trod_lt m _ _ _ hm
  have k3 := h3
  have lt3 : ∀ x ∈ p3, x.block < W.heap.size := by obtain ⟨m, hm⟩ := k3; exact DataW.trod_lt m _ _ _ hm
  have k4 := h4
  have lt4 : ∀ x ∈ p4, x.block < W.heap.size := by obtain ⟨m, hm⟩ := k4; exact DataW.trod_lt m _ _ _ hm
  have k5 := h5
  have lt5 : ∀ x ∈ p5, x.block < W.heap.size := by obtain ⟨m, hm⟩ := k5; exact DataW.trod_lt m _ _ _ hm
  have k6 := h6
  have lt6 : ∀ x ∈ p6, x.block < W.heap.size := by obtain ⟨m, hm⟩ := k6; exact DataW.trod_lt m _ _ _ hm
  obtain ⟨s0a, s0b, s0c, s0d, rfl, ⟨b0a, b0b, b0c, b0d⟩⟩ := open_four Try.underlying23 (by kernel_rfl) cells23 (hval 0 23 v0 rfl rfl) h0
  obtain ⟨x1, rfl, he1, _, w1⟩ := open_int Try.underlying3 (hval 1 3 v1 rfl rfl) h1
  obtain ⟨z2, hz2⟩ := open_list (hval 2 24 v2 rfl rfl) h2 (fun el sp hd => by subst hd; exact sized_slice hsz (j := 2) (t := 24) (e := 3) rfl rfl Try.underlying24)
  obtain ⟨z3, hz3⟩ := open_list (hval 3 24 v3 rfl rfl) h3 (fun el sp hd => by subst hd; exact sized_slice hsz (j := 3) (t := 24) (e := 3) rfl rfl Try.underlying24)
  obtain ⟨z4, hz4⟩ := open_list (hval 4 24 v4 rfl rfl) h4 (fun el sp hd => by subst hd; exact sized_slice hsz (j := 4) (t := 24) (e := 3) rfl rfl Try.underlying24)
  obtain ⟨x5, rfl, he5, _, w5⟩ := open_int Try.underlying3 (hval 5 3 v5 rfl rfl) h5
  obtain ⟨x6, rfl, he6, _, w6⟩ := open_int Try.underlying3 (hval 6 3 v6 rfl rfl) h6
  refine (walk s0a s0b s0c s0d x1 v2 z2 v3 z3 v4 z4 x5 x6 W b0a b0b b0c b0d (bounds_i64 w1) hz2 hz3 hz4 (bounds_i64 w5) (bounds_i64 w6)).mono fun e W' ⟨he, bel⟩ => ?_
  subst he
  exact ⟨_, rfl, _, _, _, [], _, [], hW', trodAll_mk1 (shut_bool Try.underlying4 _), (trodAll_cons_mk (Below.trod laidOut (by kernel_rfl) (of_decide_eq_true (by kernel_rfl)) k0 bel lt0) (trodAll_cons_mk (Below.trod laidOut (by kernel_rfl) (of_decide_eq_true (by kernel_rfl)) k1 bel lt1) (trodAll_cons_mk (Below.trod laidOut (by kernel_rfl) (of_decide_eq_true (by kernel_rfl)) k2 bel lt2) (trodAll_cons_mk (Below.trod laidOut (by kernel_rfl) (of_decide_eq_true (by kernel_rfl)) k3 bel lt3) (trodAll_cons_mk (Below.trod laidOut (by kernel_rfl) (of_decide_eq_true (by kernel_rfl)) k4 bel lt4) (trodAll_cons_mk (Below.trod laidOut (by kernel_rfl) (of_decide_eq_true (by kernel_rfl)) k5 bel lt5) (trodAll_cons_mk (Below.trod laidOut (by kernel_rfl) (of_decide_eq_true (by kernel_rfl)) k6 bel lt6) trodAll_mk0))))))), rfl, bel.frame _, fun h => by cases h⟩

theorem proved : Rows.FnYCbCrReadSaid :=
  OpenClaim.holds_of_wide 3 Try.f3 rfl rfl rfl rfl rfl rfl rfl ⟨rfl, rfl, rfl, rfl, rfl⟩ rfl rfl rfl rfl rfl (by kernel_rfl) Try.func3 (by kernel_rfl)
    (of_decide_eq_true (by kernel_rfl)) (by unfold Func.isWrapper; first | (rw [if_pos (by decide +kernel)]; kernel_rfl) | (rw [if_neg (by decide +kernel)]; exact ⟨rfl, rfl⟩))
    (fun os started H enc _ => lifted os started H enc)
#print axioms proved
end Go.Proofs.Ytcohenlemddpfaa.lawYCbCrRead

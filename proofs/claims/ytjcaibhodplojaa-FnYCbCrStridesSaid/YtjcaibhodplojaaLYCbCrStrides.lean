/-
  FnYCbCrStrides returns true for every input, and each argument reads afterwards as before. Conditions: none beyond the row's own.
-/
import Derived.Test.YtjcaibhodplojaaYSpec
import Derived.Test.YtjcaibhodplojaaLift
import Derived.Deep.Cut
namespace Go.Proofs.Ytjcaibhodplojaa.lawYCbCrStrides
open Go.ChangeShapes Go.WideShapes Go.ChangeAt Go.RowKit
set_option linter.unusedVariables false

set_option maxRecDepth 20000 in
set_option maxHeartbeats 4000000 in
theorem walk (a b c d r x y : Int) (w : World) (ha : I64 a) (hb : I64 b) (hc : I64 c) (hd : I64 d) (hr : I64 r) (hx : I64 x) (hy : I64 y) :
    Calls Try.prog 9 #[box4 a b c d, .int .i64 r, .int .i64 x, .int .i64 y] w fun e w' => e = .returned (.bool true) ∧ Grows w w' := by
  have hy1 : -9223372036854775808 ≤ y := hy.1
  by_cases hp : PlainY a b c d r
  · have HP := Lib.hid hp
    by_cases hin : Inn a b c d x y
    · have HIN := Lib.hid hin
      have hyl : y ≤ 4611686018427387904 := by obtain ⟨⟨_, ⟨_, f4⟩, _⟩, _⟩ := hp; obtain ⟨_, _, _, i4⟩ := hin; omega
      by_cases hin2 : Inn a b c d x (y + 1)
      · have HIN2 := Lib.hid hin2
        obtain ⟨hE, hi⟩ := hp.yAt_eq hin
        obtain ⟨hE2, hi2⟩ := hp.yAt_eq hin2
        obtain ⟨hC, hk⟩ := hp.cAt_eq hin
        obtain ⟨hC2, hk2⟩ := hp.cAt_eq hin2
        have hcw := hp.cw
        have hn0 := hp.nY_eq.2
        have hn1 := hp.nC_eq.2
        have hw : vsp r = 1 ∨ vsp r = 2 ∨ vsp r = (4 : Int) := by rcases vsp_or r with h | h <;> simp [h]
        have hq2 := vsp_or r
        obtain ⟨⟨⟨f1, f2⟩, ⟨f3, f4⟩, _, ⟨f7, f8⟩⟩, ⟨g1, g2⟩, ⟨g3, g4⟩, ⟨r0, r5⟩⟩ := hp
        obtain ⟨i1, i2, i3, i4⟩ := hin
        obtain ⟨j1, j2, j3, j4⟩ := hin2
        have HI0 : Hid (∀ W, Calls Try.prog 18 #[box4 a b c d, .int .i64 r, .int .i64 x, .int .i64 y] W fun e w' => e = .returned (.int .i64 (yAt a b c x y)) ∧ Grows W w') := fun W => implYOff_any _ _ _ _ _ _ _ W HP.out HIN.out
        have HI1 : Hid (∀ W, Calls Try.prog 18 #[box4 a b c d, .int .i64 r, .int .i64 x, .int .i64 (y + 1)] W fun e w' => e = .returned (.int .i64 (yAt a b c x (y + 1))) ∧ Grows W w') := fun W => implYOff_any _ _ _ _ _ _ _ W HP.out HIN2.out
        have HK0 : Hid (∀ W, Calls Try.prog 20 #[box4 a b c d, .int .i64 r, .int .i64 x, .int .i64 y] W fun e w' => e = .returned (.int .i64 (cAt a b c r x y)) ∧ Grows W w') := fun W => implCOff_any _ _ _ _ _ _ _ W HP.out HIN.out
        have HK1 : Hid (∀ W, Calls Try.prog 20 #[box4 a b c d, .int .i64 r, .int .i64 x, .int .i64 (y + 1)] W fun e w' => e = .returned (.int .i64 (cAt a b c r x (y + 1))) ∧ Grows W w') := fun W => implCOff_any _ _ _ _ _ _ _ W HP.out HIN2.out
        have HSP : Hid (∀ W, Calls Try.prog 19 #[.int .i64 r] W fun e w' => e = .returned (.tuple #[.int .i64 (hsp r), .int .i64 (vsp r)]) ∧ W = w') := fun W => spans_any r W r0 r5
        obtain ⟨d1, d1a, d1b⟩ := divs (x := y) hw (by omega)
        obtain ⟨d2, d2a, d2b⟩ := divs (x := y + 1) hw (by omega)
        have nw : ¬ vsp r = 0 := by omega
        have hdif : (yAt a b c x (y + 1) : Int) - yAt a b c x y = c - a := by
          have e : (y + 1 - b) * (c - a) = (y - b) * (c - a) + (c - a) := by
            have : y + 1 - b = (y - b) + 1 := by omega
            rw [this, Int.add_mul, Int.one_mul]
          omega
        have hstep : (y + 1) / vsp r = y / vsp r ∨ (y + 1) / vsp r = y / vsp r + 1 := by rcases hq2 with h | h <;> rw [h] <;> omega
        have hsel : ((y / vsp r != (y + 1) / vsp r) = false ∧ (cAt a b c r x (y + 1) : Int) - cAt a b c r x y = 0) ∨ ((y / vsp r != (y + 1) / vsp r) = true ∧ (cAt a b c r x (y + 1) : Int) - cAt a b c r x y = acr a c (hsp r)) := by
          rcases hstep with h | h
          · left
            rw [h] at hC2 ⊢
            refine ⟨by simp, by omega⟩
          · right
            rw [h] at hC2 ⊢
            refine ⟨by rw [bne_iff_ne]; omega, ?_⟩
            have e : (y / vsp r + 1 - b / vsp r) * acr a c (hsp r) = (y / vsp r - b / vsp r) * acr a c (hsp r) + acr a c (hsp r) := by
              have : y / vsp r + 1 - b / vsp r = (y / vsp r - b / vsp r) + 1 := by omega
              rw [this, Int.add_mul, Int.one_mul]
            omega
        clear hE hE2 hC hC2 hstep hq2 hw
        generalize yAt a b c x y = n0 at *
        generalize yAt a b c x (y + 1) = n1 at *
        generalize cAt a b c r x y = k0 at *
        generalize cAt a b c r x (y + 1) = k1 at *
        generalize y / vsp r = Y0 at *
        generalize (y + 1) / vsp r = Y1 at *
        generalize vsp r = q at *
        have hle : decide (c - a ≤ c - a) = true := by simp
        go_enter Try.func9, Try.ntmps9
        go_wp2_with fail
        refine (asRect_any _ _ _ _ _).mono ?_
        rintro e w1 ⟨rfl, hg1⟩
        have q0 : w1.cell? ⟨w.heap.size, 0, none⟩ = some (.int .i64 a) := hg1.cell_some (by simp)
        have q1 : w1.cell? ⟨w.heap.size, 1, none⟩ = some (.int .i64 b) := hg1.cell_some (by simp)
        have q2 : w1.cell? ⟨w.heap.size, 2, none⟩ = some (.int .i64 c) := hg1.cell_some (by simp)
        have q3 : w1.cell? ⟨w.heap.size, 3, none⟩ = some (.int .i64 d) := hg1.cell_some (by simp)
        have HG : Hid (Grows w w1) := ((Grows.rfl' w).alloc' _).step hg1
        clear hg1
        go_upto_region 2 with fail
        have HB : Hid (BoxAt (w1.alloc (.cells #[.int .i64 a, .int .i64 b, .int .i64 c, .int .i64 d] 26)) w1.heap.size a b c d) := ⟨cell_top rfl rfl, cell_top rfl rfl, cell_top rfl rfl, cell_top rfl rfl⟩
        have hgw : Grows w1 (w1.alloc (.cells #[.int .i64 a, .int .i64 b, .int .i64 c, .int .i64 d] 26)) := (Grows.rfl' _).alloc' _
        have HR0 : Hid (BoxAt (w1.alloc (.cells #[.int .i64 a, .int .i64 b, .int .i64 c, .int .i64 d] 26)) w.heap.size a b c d) := BoxAt.grows ⟨q0, q1, q2, q3⟩ hgw
        replace HG := Lib.hid (HG.out.step hgw)
        clear hgw q0 q1 q2 q3
        generalize w1.alloc (.cells #[.int .i64 a, .int .i64 b, .int .i64 c, .int .i64 d] 26) = w2 at *
        generalize w1.heap.size = bx at *
        obtain ⟨q0, q1, q2, q3⟩ := HR0.out
        obtain ⟨s0, s1, s2, s3⟩ := HB.out
        go_wp2_with fail
        refine (plainY_yes _ _ _ _ _ _ HP.out).mono ?_
        rintro e w3 ⟨rfl, hg3⟩
        replace HR0 := Lib.hid (HR0.out.grows hg3)
        replace HB := Lib.hid (HB.out.grows hg3)
        replace HG := Lib.hid (HG.out.step hg3)
        clear q0 q1 q2 q3 s0 s1 s2 s3
        obtain ⟨q0, q1, q2, q3⟩ := HR0.out
        obtain ⟨s0, s1, s2, s3⟩ := HB.out
        clear hg3
        go_wp2_with fail
        refine (has_yes _ _ _ _ _ _ _ HIN.out).mono ?_
        rintro e w4 ⟨rfl, hg4⟩
        replace HR0 := Lib.hid (HR0.out.grows hg4)
        replace HB := Lib.hid (HB.out.grows hg4)
        replace HG := Lib.hid (HG.out.step hg4)
        clear q0 q1 q2 q3 s0 s1 s2 s3
        obtain ⟨q0, q1, q2, q3⟩ := HR0.out
        obtain ⟨s0, s1, s2, s3⟩ := HB.out
        clear hg4
        go_wp2_with fail
        refine (has_yes _ _ _ _ _ _ _ HIN2.out).mono ?_
        rintro e w4' ⟨rfl, hg4⟩
        replace HR0 := Lib.hid (HR0.out.grows hg4)
        replace HB := Lib.hid (HB.out.grows hg4)
        replace HG := Lib.hid (HG.out.step hg4)
        clear q0 q1 q2 q3 s0 s1 s2 s3
        obtain ⟨q0, q1, q2, q3⟩ := HR0.out
        obtain ⟨s0, s1, s2, s3⟩ := HB.out
        clear hg4
        go_wp2_with fail
        refine (implNewY_any _ _ _ _ _ _ HP.out).mono ?_
        rintro e w5 ⟨vp, rfl, p1, p2, p3, rfl, ho1, ho2, ho3⟩
        obtain ⟨B1, e1, rfl⟩ := ho1.formN (bytesOf_length _ _)
        obtain ⟨B2, e2, rfl⟩ := ho2.formN (bytesOf_length _ _)
        obtain ⟨B3, e3, rfl⟩ := ho3.formN (bytesOf_length _ _)
        replace HR0 := Lib.hid (HR0.out.grows ho1.2)
        replace HB := Lib.hid (HB.out.grows ho1.2)
        replace HG := Lib.hid (HG.out.step ho1.2)
        clear q0 q1 q2 q3 s0 s1 s2 s3
        obtain ⟨q0, q1, q2, q3⟩ := HR0.out
        obtain ⟨s0, s1, s2, s3⟩ := HB.out
        clear ho1 ho2 ho3
        go_upto_region 5 with fail
        have HX : Hid (PlAt (w5.alloc (.cells #[.int .i64 a, .int .i64 b, .int .i64 c, .int .i64 d, .int .i64 (c - a), .int .i64 (acr a c (hsp r)), .int .i64 r, .slice B1 (nY a b c d) e1, .slice B2 (nC a b c d r) e2, .slice B3 (nC a b c d r) e3] 29)) w5.heap.size a b c d (c - a) (acr a c (hsp r)) r (.slice B1 (nY a b c d) e1) (.slice B2 (nC a b c d r) e2) (.slice B3 (nC a b c d r) e3)) := heap_alloc_new _ _
        have hgw : Grows w5 (w5.alloc (.cells #[.int .i64 a, .int .i64 b, .int .i64 c, .int .i64 d, .int .i64 (c - a), .int .i64 (acr a c (hsp r)), .int .i64 r, .slice B1 (nY a b c d) e1, .slice B2 (nC a b c d r) e2, .slice B3 (nC a b c d r) e3] 29)) := (Grows.rfl' _).alloc' _
        replace HR0 := Lib.hid (HR0.out.grows hgw)
        replace HB := Lib.hid (HB.out.grows hgw)
        replace HG := Lib.hid (HG.out.step hgw)
        clear q0 q1 q2 q3 s0 s1 s2 s3
        obtain ⟨q0, q1, q2, q3⟩ := HR0.out
        obtain ⟨s0, s1, s2, s3⟩ := HB.out
        clear hgw
        generalize w5.alloc (.cells #[.int .i64 a, .int .i64 b, .int .i64 c, .int .i64 d, .int .i64 (c - a), .int .i64 (acr a c (hsp r)), .int .i64 r, .slice B1 (nY a b c d) e1, .slice B2 (nC a b c d r) e2, .slice B3 (nC a b c d r) e3] 29) = w6 at *
        generalize w5.heap.size = pbx at *
        go_wp2_with fail
        refine (HSP.out _).mono ?_
        rintro e w6' ⟨rfl, rfl⟩
        go_wp2_with fail
        rcases hsel with ⟨z1, z2⟩ | ⟨z1, z2⟩
        all_goals
          apply wp_region_lex_lit 8 (by kernel_rfl) (by kernel_rfl)
          iterate 8
            apply lex_pin
            · intro wq hgq hdq Kq hKq
              go_wp2
              exact hKq _ (Grows.rfl' _)
            · kernel_rfl
          refine lex_end ?_
          intro w7 hg7 _
          have HG67 : Hid (Grows w6 w7) := (Grows.rfl' _).drew'.step hg7
          clear hg7
          replace HR0 := Lib.hid (HR0.out.grows HG67.out)
          replace HB := Lib.hid (HB.out.grows HG67.out)
          replace HG := Lib.hid (HG.out.step HG67.out)
          clear q0 q1 q2 q3 s0 s1 s2 s3
          obtain ⟨q0, q1, q2, q3⟩ := HR0.out
          obtain ⟨s0, s1, s2, s3⟩ := HB.out
          replace HX := Lib.hid (HX.out.grows HG67.out)
          obtain ⟨t0, t1, t2, t3, t4, t5, t6, t7, t8, t9⟩ := HX.out.cells
          go_wp2_with fail
          apply wp_region_lex_lit 42 (by kernel_rfl) (by kernel_rfl)
          iterate 15
            apply lex_pin
            · intro wq hgq hdq Kq hKq
              obtain ⟨q0, q1, q2, q3⟩ := HR0.out.grows ((Grows.rfl' _).drew'.step hgq)
              obtain ⟨s0, s1, s2, s3⟩ := HB.out.grows ((Grows.rfl' _).drew'.step hgq)
              obtain ⟨t0, t1, t2, t3, t4, t5, t6, t7, t8, t9⟩ := (HX.out.grows ((Grows.rfl' _).drew'.step hgq)).cells
              go_wp2_with ((go_at_call 18; refine (HI1.out _).mono ?_); rintro e wq' ⟨rfl, hgq'⟩)
              first | exact hKq _ (Grows.rfl' _) | exact hKq _ hgq'
            · kernel_rfl
          iterate 16
            apply lex_pin
            · intro wq hgq hdq Kq hKq
              obtain ⟨q0, q1, q2, q3⟩ := HR0.out.grows ((Grows.rfl' _).drew'.step hgq)
              obtain ⟨s0, s1, s2, s3⟩ := HB.out.grows ((Grows.rfl' _).drew'.step hgq)
              obtain ⟨t0, t1, t2, t3, t4, t5, t6, t7, t8, t9⟩ := (HX.out.grows ((Grows.rfl' _).drew'.step hgq)).cells
              go_wp2_with ((go_at_call 18; refine (HI0.out _).mono ?_); rintro e wq' ⟨rfl, hgq'⟩)
              first | exact hKq _ (Grows.rfl' _) | exact hKq _ hgq'
            · kernel_rfl
          iterate 1
            apply lex_pin
            · intro wq hgq hdq Kq hKq
              obtain ⟨q0, q1, q2, q3⟩ := HR0.out.grows ((Grows.rfl' _).drew'.step hgq)
              obtain ⟨s0, s1, s2, s3⟩ := HB.out.grows ((Grows.rfl' _).drew'.step hgq)
              obtain ⟨t0, t1, t2, t3, t4, t5, t6, t7, t8, t9⟩ := (HX.out.grows ((Grows.rfl' _).drew'.step hgq)).cells
              go_wp2_with ((go_at_call 20; refine (HK1.out _).mono ?_); rintro e wq' ⟨rfl, hgq'⟩)
              first | exact hKq _ (Grows.rfl' _) | exact hKq _ hgq'
            · kernel_rfl
          iterate 10
            apply lex_pin
            · intro wq hgq hdq Kq hKq
              obtain ⟨q0, q1, q2, q3⟩ := HR0.out.grows ((Grows.rfl' _).drew'.step hgq)
              obtain ⟨s0, s1, s2, s3⟩ := HB.out.grows ((Grows.rfl' _).drew'.step hgq)
              obtain ⟨t0, t1, t2, t3, t4, t5, t6, t7, t8, t9⟩ := (HX.out.grows ((Grows.rfl' _).drew'.step hgq)).cells
              go_wp2_with ((go_at_call 20; refine (HK0.out _).mono ?_); rintro e wq' ⟨rfl, hgq'⟩)
              first | exact hKq _ (Grows.rfl' _) | exact hKq _ hgq'
            · kernel_rfl
          refine lex_end ?_
          intro w8 hg8 _
          go_wp2
          go_ret
          exact ⟨rfl, HG.out.drew'.step hg8⟩
      · have HIN2 := Lib.hid hin2
        clear hin hin2 hp
        go_enter Try.func9, Try.ntmps9
        go_wp2_with fail
        refine (asRect_any _ _ _ _ _).mono ?_
        rintro e w1 ⟨rfl, hg1⟩
        have q0 : w1.cell? ⟨w.heap.size, 0, none⟩ = some (.int .i64 a) := hg1.cell_some (by simp)
        have q1 : w1.cell? ⟨w.heap.size, 1, none⟩ = some (.int .i64 b) := hg1.cell_some (by simp)
        have q2 : w1.cell? ⟨w.heap.size, 2, none⟩ = some (.int .i64 c) := hg1.cell_some (by simp)
        have q3 : w1.cell? ⟨w.heap.size, 3, none⟩ = some (.int .i64 d) := hg1.cell_some (by simp)
        have HG : Hid (Grows w w1) := ((Grows.rfl' w).alloc' _).step hg1
        clear hg1
        go_upto_region 2 with fail
        have HB : Hid (BoxAt (w1.alloc (.cells #[.int .i64 a, .int .i64 b, .int .i64 c, .int .i64 d] 26)) w1.heap.size a b c d) := ⟨cell_top rfl rfl, cell_top rfl rfl, cell_top rfl rfl, cell_top rfl rfl⟩
        have hgw : Grows w1 (w1.alloc (.cells #[.int .i64 a, .int .i64 b, .int .i64 c, .int .i64 d] 26)) := (Grows.rfl' _).alloc' _
        have HR0 : Hid (BoxAt (w1.alloc (.cells #[.int .i64 a, .int .i64 b, .int .i64 c, .int .i64 d] 26)) w.heap.size a b c d) := BoxAt.grows ⟨q0, q1, q2, q3⟩ hgw
        replace HG := Lib.hid (HG.out.step hgw)
        clear hgw q0 q1 q2 q3
        generalize w1.alloc (.cells #[.int .i64 a, .int .i64 b, .int .i64 c, .int .i64 d] 26) = w2 at *
        generalize w1.heap.size = bx at *
        obtain ⟨q0, q1, q2, q3⟩ := HR0.out
        obtain ⟨s0, s1, s2, s3⟩ := HB.out
        go_wp2_with fail
        refine (plainY_yes _ _ _ _ _ _ HP.out).mono ?_
        rintro e w3 ⟨rfl, hg3⟩
        replace HR0 := Lib.hid (HR0.out.grows hg3)
        replace HB := Lib.hid (HB.out.grows hg3)
        replace HG := Lib.hid (HG.out.step hg3)
        clear q0 q1 q2 q3 s0 s1 s2 s3
        obtain ⟨q0, q1, q2, q3⟩ := HR0.out
        obtain ⟨s0, s1, s2, s3⟩ := HB.out
        clear hg3
        go_wp2_with fail
        refine (has_yes _ _ _ _ _ _ _ HIN.out).mono ?_
        rintro e w4 ⟨rfl, hg4⟩
        replace HR0 := Lib.hid (HR0.out.grows hg4)
        replace HB := Lib.hid (HB.out.grows hg4)
        replace HG := Lib.hid (HG.out.step hg4)
        clear q0 q1 q2 q3 s0 s1 s2 s3
        obtain ⟨q0, q1, q2, q3⟩ := HR0.out
        obtain ⟨s0, s1, s2, s3⟩ := HB.out
        clear hg4
        go_wp2_with fail
        refine (has_no _ _ _ _ _ _ _ HIN2.out).mono ?_
        rintro e w5 ⟨rfl, hg5⟩
        go_wp2_with fail
        go_ret
        exact ⟨rfl, HG.out.step hg5⟩
    · have HIN := Lib.hid hin
      clear hin hp
      go_enter Try.func9, Try.ntmps9
      go_wp2_with fail
      refine (asRect_any _ _ _ _ _).mono ?_
      rintro e w1 ⟨rfl, hg1⟩
      have q0 : w1.cell? ⟨w.heap.size, 0, none⟩ = some (.int .i64 a) := hg1.cell_some (by simp)
      have q1 : w1.cell? ⟨w.heap.size, 1, none⟩ = some (.int .i64 b) := hg1.cell_some (by simp)
      have q2 : w1.cell? ⟨w.heap.size, 2, none⟩ = some (.int .i64 c) := hg1.cell_some (by simp)
      have q3 : w1.cell? ⟨w.heap.size, 3, none⟩ = some (.int .i64 d) := hg1.cell_some (by simp)
      have HG : Hid (Grows w w1) := ((Grows.rfl' w).alloc' _).step hg1
      clear hg1
      go_upto_region 2 with fail
      have HB : Hid (BoxAt (w1.alloc (.cells #[.int .i64 a, .int .i64 b, .int .i64 c, .int .i64 d] 26)) w1.heap.size a b c d) := ⟨cell_top rfl rfl, cell_top rfl rfl, cell_top rfl rfl, cell_top rfl rfl⟩
      have hgw : Grows w1 (w1.alloc (.cells #[.int .i64 a, .int .i64 b, .int .i64 c, .int .i64 d] 26)) := (Grows.rfl' _).alloc' _
      have HR0 : Hid (BoxAt (w1.alloc (.cells #[.int .i64 a, .int .i64 b, .int .i64 c, .int .i64 d] 26)) w.heap.size a b c d) := BoxAt.grows ⟨q0, q1, q2, q3⟩ hgw
      replace HG := Lib.hid (HG.out.step hgw)
      clear hgw q0 q1 q2 q3
      generalize w1.alloc (.cells #[.int .i64 a, .int .i64 b, .int .i64 c, .int .i64 d] 26) = w2 at *
      generalize w1.heap.size = bx at *
      obtain ⟨q0, q1, q2, q3⟩ := HR0.out
      obtain ⟨s0, s1, s2, s3⟩ := HB.out
      go_wp2_with fail
      refine (plainY_yes _ _ _ _ _ _ HP.out).mono ?_
      rintro e w3 ⟨rfl, hg3⟩
      replace HR0 := Lib.hid (HR0.out.grows hg3)
      replace HB := Lib.hid (HB.out.grows hg3)
      replace HG := Lib.hid (HG.out.step hg3)
      clear q0 q1 q2 q3 s0 s1 s2 s3
      obtain ⟨q0, q1, q2, q3⟩ := HR0.out
      obtain ⟨s0, s1, s2, s3⟩ := HB.out
      clear hg3
      go_wp2_with fail
      refine (has_no _ _ _ _ _ _ _ HIN.out).mono ?_
      rintro e w4 ⟨rfl, hg4⟩
      go_wp2_with fail
      go_ret
      exact ⟨rfl, HG.out.step hg4⟩
  · have HP := Lib.hid hp
    clear hp
    go_enter Try.func9, Try.ntmps9
    go_wp2_with fail
    refine (asRect_any _ _ _ _ _).mono ?_
    rintro e w1 ⟨rfl, hg1⟩
    have q0 : w1.cell? ⟨w.heap.size, 0, none⟩ = some (.int .i64 a) := hg1.cell_some (by simp)
    have q1 : w1.cell? ⟨w.heap.size, 1, none⟩ = some (.int .i64 b) := hg1.cell_some (by simp)
    have q2 : w1.cell? ⟨w.heap.size, 2, none⟩ = some (.int .i64 c) := hg1.cell_some (by simp)
    have q3 : w1.cell? ⟨w.heap.size, 3, none⟩ = some (.int .i64 d) := hg1.cell_some (by simp)
    have HG : Hid (Grows w w1) := ((Grows.rfl' w).alloc' _).step hg1
    have hsz : w.heap.size < w1.heap.size := cell_lt q0
    clear hg1
    go_wp2_with fail
    refine (plainY_no _ _ _ _ _ _ HP.out ha hb).mono ?_
    rintro e w2 ⟨rfl, hg2⟩
    go_wp2_with fail
    go_ret
    exact ⟨rfl, (HG.out.alloc' _).step hg2⟩

set_option linter.unusedVariables false
set_option maxRecDepth 100000 in
theorem lifted (os : Os) (started : os.Started) (H : Type) (enc : TypeId × Value → H) :
    ReturnsInHanded {} Try.checked os 9 .any (Rows.fnYCbCrStridesSpec.pre6 enc Try.prog Try.f9 Rows.fnYCbCrStridesRow.domain false) (Rows.fnYCbCrStridesSpec.post enc Try.prog Try.f9 false true false false) := by
  refine returnsInHanded_of_change_sized (C := Try.checked) own started (by kernel_rfl) Try.func9
    (ChangeSpec.witness6 (enc := enc) (C := Try.checked) false ⟨#[], #[.agg #[.int .i64 0, .int .i64 0, .int .i64 0, .int .i64 0], .int .i64 0, .int .i64 0, .int .i64 0], []⟩ 8 (by kernel_rfl) (by kernel_rfl) (by kernel_rfl) (by kernel_rfl)) ?_
  intro W base args ds gs before hval0 hW hcnd hsz0 _
  have hval : ∀ (j : Nat) t v, Try.f9.params[j]? = some t → args[j]? = some v → Value.okWide Try.prog W .any base t v := hval0
  have hsz : (DataW.weightsEach Try.prog (Try.f9.params.toList ++ Rows.fnYCbCrStridesSpec.plain.varTypes Try.prog) (ds ++ gs)).all (· ≤ reachBytes) = true := hsz0
  clear hsz0
  have hW' := hW
  obtain ⟨p, q, hA0, hV, rfl, hfz, hnd⟩ := hW
  have hA : DataW.TrodAll enc Try.prog W 0 (fun _ => true) true Try.f9.params.toList args.toList ds p := hA0
  rw [Try.params9] at hA hval hsz
  obtain ⟨v0, vs0, d0, ds0, p0, q0, hargs, rfl, rfl, h0, r0⟩ := trodAll_cons hA
  obtain ⟨v1, vs1, d1, ds1, p1, q1, rfl, rfl, rfl, h1, r1⟩ := trodAll_cons r0
  obtain ⟨v2, vs2, d2, ds2, p2, q2, rfl, rfl, rfl, h2, r2⟩ := trodAll_cons r1
  obtain ⟨v3, vs3, d3, ds3, p3, q3, rfl, rfl, rfl, h3, r3⟩ := trodAll_cons r2
  obtain ⟨rfl, rfl, rfl⟩ := trodAll_nil r3
  obtain rfl : args = #[v0, v1, v2, v3] := by cases args; simp_all
  obtain ⟨rfl, rfl⟩ := trodVars_none hV
  have k0 := h0
  have lt0 : ∀ x ∈ p0, x.block < W.heap.size := by obtain ⟨m, hm⟩ := k0; exact DataW.trod_lt m _ _ _ hm
  have k1 := h1
  have lt1 : ∀ x ∈ p1, x.block < W.heap.size := by obtain ⟨m, hm⟩ := k1; exact DataW.trod_lt m _ _ _ hm
  have k2 := h2
  have lt2 : ∀ x ∈ p2, x.block < W.heap.size := by obtain ⟨m, hm⟩ := k2; exact DataW.trod_lt m _ _ _ hm
  have k3 := h3
  have lt3 : ∀ x ∈ p3, x.block < W.heap.size := by obtain ⟨m, hm⟩ := k3; exact DataW.trod_lt m _ _ _ hm
  obtain ⟨s0a, s0b, s0c, s0d, rfl, ⟨b0a, b0b, b0c, b0d⟩⟩ := open_four Try.underlying23 (by kernel_rfl) cells23 (hval 0 23 v0 rfl rfl) h0
  obtain ⟨x1, rfl, he1, _, w1⟩ := open_int Try.underlying3 (hval 1 3 v1 rfl rfl) h1
  obtain ⟨x2, rfl, he2, _, w2⟩ := open_int Try.underlying3 (hval 2 3 v2 rfl rfl) h2
  obtain ⟨x3, rfl, he3, _, w3⟩ := open_int Try.underlying3 (hval 3 3 v3 rfl rfl) h3
  refine (walk s0a s0b s0c s0d x1 x2 x3 W b0a b0b b0c b0d (bounds_i64 w1) (bounds_i64 w2) (bounds_i64 w3)).mono fun e W' ⟨he, bel⟩ => ?_
  subst he
  exact ⟨_, rfl, _, _, _, [], _, [], hW', trodAll_mk1 (shut_bool Try.underlying4 _), (trodAll_cons_mk (Below.trod laidOut (by kernel_rfl) (of_decide_eq_true (by kernel_rfl)) k0 bel lt0) (trodAll_cons_mk (Below.trod laidOut (by kernel_rfl) (of_decide_eq_true (by kernel_rfl)) k1 bel lt1) (trodAll_cons_mk (Below.trod laidOut (by kernel_rfl) (of_decide_eq_true (by kernel_rfl)) k2 bel lt2) (trodAll_cons_mk (Below.trod laidOut (by kernel_rfl) (of_decide_eq_true (by kernel_rfl)) k3 bel lt3) trodAll_mk0)))), rfl, bel.frame _, fun h => by cases h⟩

theorem proved : Rows.FnYCbCrStridesSaid :=
  OpenClaim.holds_of_wide 9 Try.f9 rfl rfl rfl rfl rfl rfl rfl ⟨rfl, rfl, rfl, rfl, rfl⟩ rfl rfl rfl rfl rfl (by kernel_rfl) Try.func9 (by kernel_rfl)
    (of_decide_eq_true (by kernel_rfl)) (by unfold Func.isWrapper; first | (rw [if_pos (by decide +kernel)]; kernel_rfl) | (rw [if_neg (by decide +kernel)]; exact ⟨rfl, rfl⟩))
    (fun os started H enc _ => lifted os started H enc)
#print axioms proved
end Go.Proofs.Ytjcaibhodplojaa.lawYCbCrStrides

/-
  FnCMYKShared returns true for every input, and each argument reads afterwards as before. Conditions: none beyond the row's own.
-/
import Derived.Test.YtbedollfokdldaaRun
import Derived.Test.YtbedollfokdldaaScript
import Derived.Test.YtbedollfokdldaaFlo
import Derived.Test.YtbedollfokdldaaLift
import Derived.Deep.Cut
namespace Go.Proofs.Ytbedollfokdldaa.lawCMYKShared
open Go.ChangeShapes Go.WideShapes Go.ChangeAt Go.RowKit
set_option linter.unusedVariables false

set_option maxRecDepth 20000 in
set_option maxHeartbeats 4000000 in
theorem walk (a b c d : Int) (vv : Value) (zs : List Int) (a' b' c' d' x y n0 n1 n2 n3 : Int) (w : World) (ha : I64 a) (hb : I64 b) (hc : I64 c) (hd : I64 d) (h : RdI w vv zs) (ha' : I64 a') (hb' : I64 b') (hc' : I64 c') (hd' : I64 d') (hx : I64 x) (hy : I64 y) (hn0 : I64 n0) (hn1 : I64 n1) (hn2 : I64 n2) (hn3 : I64 n3) :
    Calls Try.prog 5 #[box4 a b c d, vv, box4 a' b' c' d', .int .i64 x, .int .i64 y, box4 n0 n1 n2 n3] w fun e w' => e = .returned (.bool true) ∧ Grows w w' := by
  have HR := Lib.hid h
  obtain ⟨A, cc, rfl, _⟩ := h
  go_enter Try.func5, Try.ntmps5
  go_upto_region 1 with fail
  have HGW : Hid (Grows w (((w.alloc (.cells #[.int .i64 a, .int .i64 b, .int .i64 c, .int .i64 d] 23)).alloc (.cells #[.int .i64 a', .int .i64 b', .int .i64 c', .int .i64 d'] 23)).alloc (.cells #[.int .i64 n0, .int .i64 n1, .int .i64 n2, .int .i64 n3] 42))) := (((Grows.rfl' w).alloc' _).alloc' _).alloc' _
  have HB0 : Hid (BoxAt (((w.alloc (.cells #[.int .i64 a, .int .i64 b, .int .i64 c, .int .i64 d] 23)).alloc (.cells #[.int .i64 a', .int .i64 b', .int .i64 c', .int .i64 d'] 23)).alloc (.cells #[.int .i64 n0, .int .i64 n1, .int .i64 n2, .int .i64 n3] 42)) w.heap.size a b c d) := BoxAt.grows ⟨cell_top rfl rfl, cell_top rfl rfl, cell_top rfl rfl, cell_top rfl rfl⟩ (((Grows.rfl' _).alloc' _).alloc' _)
  have HN : Hid (BoxAt (((w.alloc (.cells #[.int .i64 a, .int .i64 b, .int .i64 c, .int .i64 d] 23)).alloc (.cells #[.int .i64 a', .int .i64 b', .int .i64 c', .int .i64 d'] 23)).alloc (.cells #[.int .i64 n0, .int .i64 n1, .int .i64 n2, .int .i64 n3] 42)) (w.heap.size + 1) a' b' c' d') := BoxAt.grows ⟨cell_top (by simp) rfl, cell_top (by simp) rfl, cell_top (by simp) rfl, cell_top (by simp) rfl⟩ ((Grows.rfl' _).alloc' _)
  have HCB : Hid (BoxAt (((w.alloc (.cells #[.int .i64 a, .int .i64 b, .int .i64 c, .int .i64 d] 23)).alloc (.cells #[.int .i64 a', .int .i64 b', .int .i64 c', .int .i64 d'] 23)).alloc (.cells #[.int .i64 n0, .int .i64 n1, .int .i64 n2, .int .i64 n3] 42)) (w.heap.size + 2) n0 n1 n2 n3) := ⟨cell_top (by simp) rfl, cell_top (by simp) rfl, cell_top (by simp) rfl, cell_top (by simp) rfl⟩
  generalize ((w.alloc (.cells #[.int .i64 a, .int .i64 b, .int .i64 c, .int .i64 d] 23)).alloc (.cells #[.int .i64 a', .int .i64 b', .int .i64 c', .int .i64 d'] 23)).alloc (.cells #[.int .i64 n0, .int .i64 n1, .int .i64 n2, .int .i64 n3] 42) = W0 at *
  obtain ⟨q0, q1, q2, q3⟩ := HB0.out
  go_wp2_with fail
  refine (asRect_any _ _ _ _ _).mono ?_
  rintro e w1 ⟨rfl, hg1⟩
  clear q0 q1 q2 q3
  obtain ⟨q0, q1, q2, q3⟩ := HB0.out.grows hg1
  replace HN := Lib.hid (HN.out.grows hg1)
  have HG := Lib.hid hg1
  clear hg1
  go_upto_region 2 with fail
  have HB : Hid (BoxAt (w1.alloc (.cells #[.int .i64 a, .int .i64 b, .int .i64 c, .int .i64 d] 26)) w1.heap.size a b c d) := ⟨cell_top rfl rfl, cell_top rfl rfl, cell_top rfl rfl, cell_top rfl rfl⟩
  have hgw : Grows w1 (w1.alloc (.cells #[.int .i64 a, .int .i64 b, .int .i64 c, .int .i64 d] 26)) := (Grows.rfl' _).alloc' _
  replace HN := Lib.hid (HN.out.grows hgw)
  have HR0 : Hid (BoxAt (w1.alloc (.cells #[.int .i64 a, .int .i64 b, .int .i64 c, .int .i64 d] 26)) w.heap.size a b c d) := BoxAt.grows ⟨q0, q1, q2, q3⟩ hgw
  replace HG := Lib.hid (HG.out.step hgw)
  clear hgw q0 q1 q2 q3
  generalize w1.alloc (.cells #[.int .i64 a, .int .i64 b, .int .i64 c, .int .i64 d] 26) = w2 at *
  generalize w1.heap.size = bx at *
  by_cases hm : Meet a b c d a' b' c' d'
  · have HM := Lib.hid hm
    clear hm
    apply wp_region_flo_lit 9 (by kernel_rfl) (by kernel_rfl)
    iterate 7
      apply flo_pin
      · intro wq hgq hdq Kq hKq
        obtain ⟨p0, p1, p2, p3⟩ := HB.out.grows ((Grows.rfl' _).drew'.step hgq)
        obtain ⟨n0', n1', n2', n3'⟩ := HN.out.grows ((Grows.rfl' _).drew'.step hgq)
        go_wp2_with ((first | (go_at_call 10; refine (asRect_any _ _ _ _ _).mono ?_) | (go_at_call 19; refine (common_yes _ _ _ _ _ _ _ _ _ HM.out).mono ?_)); rintro e wq' ⟨rfl, hgq'⟩)
        first | exact hKq _ (Grows.rfl' _) | exact hKq _ hgq'
      · kernel_rfl
      intro _
    apply flo_any (RectBox w2) RectBox.keep
    · intro wq hgq hdq Kq hKq
      have hsz4 : w2.heap.size ≤ wq.heap.size := hgq.size
      go_wp2
      exact hKq _ _ ((Grows.rfl' _).alloc' _) ⟨wq.heap.size, rfl, hsz4, _, _, _, _, heap_alloc_new _ _⟩
    · kernel_rfl
    intro vx
    simp only [Act.put, List.setIfInBounds_toArray, List.set_cons_succ, List.set_cons_zero]
    apply flo_put 7 vx (RectIn w2 (max a a') (max b b') (min c c') (min d d')) RectIn.keep rfl rfl (by kernel_rfl)
    · intro wq hgq hdq Kq hKq
      obtain ⟨rb, rfl, hrb, r1, r2, r3, r4, kb⟩ := hdq 7 _ rfl (by kernel_rfl)
      clear hdq
      have KS := Lib.hid ((((kb.set0 (max a a')).set1 (max b b')).set2 (min c c')).set3 (min d d'))
      have HGS := Lib.hid ((((hgq.set' (p := ⟨rb, 0, none⟩) hrb (.int .i64 (max a a'))).set' (p := ⟨rb, 1, none⟩) hrb (.int .i64 (max b b'))).set' (p := ⟨rb, 2, none⟩) hrb (.int .i64 (min c c'))).set' (p := ⟨rb, 3, none⟩) hrb (.int .i64 (min d d')))
      obtain ⟨k0, k1, k2, k3⟩ := kb.cells
      have kf := kb.frozen
      clear kb
      go_wp2
      refine hKq _ HGS.out ?_ ⟨rb, rfl, hrb, KS.out⟩
      repeat' first | exact Keeps.nil | refine Keeps.idle ?_ | refine Keeps.snoc ?_ ?_
      intro h
      exact ⟨rb, rfl, hrb, _, _, _, _, KS.out⟩
    · kernel_rfl
    intro _
    refine flo_end ?_
    intro w3 hg3 hd3
    obtain ⟨rb, rfl, hrb, kb⟩ := hd3 8 _ rfl
    clear hd3
    have HGS : Hid (Grows w2 w3) := (Grows.rfl' _).drew'.step hg3
    have KS := Lib.hid kb
    clear hg3 kb
    go_upto_region 3 with fail
    replace HB := Lib.hid (HB.out.grows HGS.out)
    replace HN := Lib.hid (HN.out.grows HGS.out)
    replace HR0 := Lib.hid (HR0.out.grows HGS.out)
    replace HG := Lib.hid (HG.out.step HGS.out)
    obtain ⟨r0, r1, r2, r3⟩ := HR0.out
    by_cases hf : Fine a b c d
    · have HF := Lib.hid hf
      have htl := total_le (k := 4) (by omega) hf
      clear hf
      go_wp2_with fail
      refine (fine_yes _ _ _ _ _ HF.out).mono ?_
      rintro e w4 ⟨rfl, hg4⟩
      replace HB := Lib.hid (HB.out.grows hg4)
      replace HN := Lib.hid (HN.out.grows hg4)
      replace KS := Lib.hid (KS.out.grows hg4)
      replace HG := Lib.hid (HG.out.step hg4)
      clear hg4 r0 r1 r2 r3 HR0 HGS
      obtain ⟨r0, r1, r2, r3⟩ := KS.out.cells
      by_cases hi : Inn (max a a') (max b b') (min c c') (min d d') x y
      · have HI := Lib.hid hi
        clear hi
        go_wp2_with fail
        refine (has_yes _ _ _ _ _ _ _ HI.out).mono ?_
        rintro e w5 ⟨rfl, hg5⟩
        replace HB := Lib.hid (HB.out.grows hg5)
        replace HN := Lib.hid (HN.out.grows hg5)
        replace HG := Lib.hid (HG.out.step hg5)
        clear hg5 r0 r1 r2 r3 KS
        obtain ⟨s0, s1, s2, s3⟩ := HN.out
        go_wp2_with fail
        refine (asRect_any _ _ _ _ _).mono ?_
        rintro e w6 ⟨rfl, hg6⟩
        clear s0 s1 s2 s3
        go_upto_region 7 with fail
        have HS1 : Hid (StpAt (((w6.alloc (.cells #[.int .i64 4, .int .i64 0, .int .i64 0, .int .i64 0, .int .i64 0, .int .i64 0, .int .i64 0, .int .i64 a', .int .i64 b', .int .i64 c', .int .i64 d'] 48)).alloc (.cells #[.int .i64 5, .int .i64 0, .int .i64 0, .int .i64 0, .int .i64 0, .int .i64 0, .int .i64 0, .int .i64 0, .int .i64 0, .int .i64 0, .int .i64 0] 48)).alloc (.cells #[.int .i64 2, .int .i64 x, .int .i64 y, .int .i64 0, .int .i64 0, .int .i64 0, .int .i64 0, .int .i64 0, .int .i64 0, .int .i64 0, .int .i64 0] 48)) w6.heap.size (4, 0, 0, (0, 0, 0, 0), (a', b', c', d'))) := (StpAt.top (4, 0, 0, (0, 0, 0, 0), (a', b', c', d')) rfl).grows (((Grows.rfl' _).alloc' _).alloc' _)
        have HS2 : Hid (StpAt (((w6.alloc (.cells #[.int .i64 4, .int .i64 0, .int .i64 0, .int .i64 0, .int .i64 0, .int .i64 0, .int .i64 0, .int .i64 a', .int .i64 b', .int .i64 c', .int .i64 d'] 48)).alloc (.cells #[.int .i64 5, .int .i64 0, .int .i64 0, .int .i64 0, .int .i64 0, .int .i64 0, .int .i64 0, .int .i64 0, .int .i64 0, .int .i64 0, .int .i64 0] 48)).alloc (.cells #[.int .i64 2, .int .i64 x, .int .i64 y, .int .i64 0, .int .i64 0, .int .i64 0, .int .i64 0, .int .i64 0, .int .i64 0, .int .i64 0, .int .i64 0] 48)) (w6.heap.size + 1) (5, 0, 0, (0, 0, 0, 0), (0, 0, 0, 0))) := (StpAt.top (5, 0, 0, (0, 0, 0, 0), (0, 0, 0, 0)) (by simp)).grows ((Grows.rfl' _).alloc' _)
        have HS3 : Hid (StpAt (((w6.alloc (.cells #[.int .i64 4, .int .i64 0, .int .i64 0, .int .i64 0, .int .i64 0, .int .i64 0, .int .i64 0, .int .i64 a', .int .i64 b', .int .i64 c', .int .i64 d'] 48)).alloc (.cells #[.int .i64 5, .int .i64 0, .int .i64 0, .int .i64 0, .int .i64 0, .int .i64 0, .int .i64 0, .int .i64 0, .int .i64 0, .int .i64 0, .int .i64 0] 48)).alloc (.cells #[.int .i64 2, .int .i64 x, .int .i64 y, .int .i64 0, .int .i64 0, .int .i64 0, .int .i64 0, .int .i64 0, .int .i64 0, .int .i64 0, .int .i64 0] 48)) (w6.heap.size + 1 + 1) (2, x, y, (0, 0, 0, 0), (0, 0, 0, 0))) := StpAt.top (2, x, y, (0, 0, 0, 0), (0, 0, 0, 0)) (by simp)
        have hgw : Grows W0 (((w6.alloc (.cells #[.int .i64 4, .int .i64 0, .int .i64 0, .int .i64 0, .int .i64 0, .int .i64 0, .int .i64 0, .int .i64 a', .int .i64 b', .int .i64 c', .int .i64 d'] 48)).alloc (.cells #[.int .i64 5, .int .i64 0, .int .i64 0, .int .i64 0, .int .i64 0, .int .i64 0, .int .i64 0, .int .i64 0, .int .i64 0, .int .i64 0, .int .i64 0] 48)).alloc (.cells #[.int .i64 2, .int .i64 x, .int .i64 y, .int .i64 0, .int .i64 0, .int .i64 0, .int .i64 0, .int .i64 0, .int .i64 0, .int .i64 0, .int .i64 0] 48)) := (((HG.out.step hg6).alloc' _).alloc' _).alloc' _
        replace HB := Lib.hid (HB.out.grows (((hg6.alloc' (.cells #[.int .i64 4, .int .i64 0, .int .i64 0, .int .i64 0, .int .i64 0, .int .i64 0, .int .i64 0, .int .i64 a', .int .i64 b', .int .i64 c', .int .i64 d'] 48)).alloc' (.cells #[.int .i64 5, .int .i64 0, .int .i64 0, .int .i64 0, .int .i64 0, .int .i64 0, .int .i64 0, .int .i64 0, .int .i64 0, .int .i64 0, .int .i64 0] 48)).alloc' (.cells #[.int .i64 2, .int .i64 x, .int .i64 y, .int .i64 0, .int .i64 0, .int .i64 0, .int .i64 0, .int .i64 0, .int .i64 0, .int .i64 0, .int .i64 0] 48)))
        replace HG := Lib.hid hgw
        clear hgw hg6 HN
        generalize (((w6.alloc (.cells #[.int .i64 4, .int .i64 0, .int .i64 0, .int .i64 0, .int .i64 0, .int .i64 0, .int .i64 0, .int .i64 a', .int .i64 b', .int .i64 c', .int .i64 d'] 48)).alloc (.cells #[.int .i64 5, .int .i64 0, .int .i64 0, .int .i64 0, .int .i64 0, .int .i64 0, .int .i64 0, .int .i64 0, .int .i64 0, .int .i64 0, .int .i64 0] 48)).alloc (.cells #[.int .i64 2, .int .i64 x, .int .i64 y, .int .i64 0, .int .i64 0, .int .i64 0, .int .i64 0, .int .i64 0, .int .i64 0, .int .i64 0, .int .i64 0] 48)) = w7 at *
        generalize w6.heap.size = sb at *
        obtain ⟨m0, m1, m2, m3⟩ := HCB.out.grows HG.out
        go_wp2_with fail
        refine (asColor_any _ _ _ _ _).mono ?_
        rintro e w7' ⟨rfl, hg7⟩
        replace HB := Lib.hid (HB.out.grows hg7)
        replace HG := Lib.hid (HG.out.step hg7)
        replace HS1 := Lib.hid (HS1.out.grows hg7)
        replace HS2 := Lib.hid (HS2.out.grows hg7)
        replace HS3 := Lib.hid (HS3.out.grows hg7)
        clear hg7 m0 m1 m2 m3
        generalize w7' = w7 at *
        go_upto_region 8 with fail
        have HS4 : Hid (StpAt (w7.alloc (.cells #[.int .i64 1, .int .i64 x, .int .i64 y, .int .i64 n0, .int .i64 n1, .int .i64 n2, .int .i64 n3, .int .i64 0, .int .i64 0, .int .i64 0, .int .i64 0] 48)) w7.heap.size (1, x, y, (n0, n1, n2, n3), (0, 0, 0, 0))) := StpAt.top (1, x, y, (n0, n1, n2, n3), (0, 0, 0, 0)) rfl
        have hgw : Grows w7 (w7.alloc (.cells #[.int .i64 1, .int .i64 x, .int .i64 y, .int .i64 n0, .int .i64 n1, .int .i64 n2, .int .i64 n3, .int .i64 0, .int .i64 0, .int .i64 0, .int .i64 0] 48)) := (Grows.rfl' _).alloc' _
        replace HB := Lib.hid (HB.out.grows hgw)
        replace HG := Lib.hid (HG.out.step hgw)
        replace HS1 := Lib.hid (HS1.out.grows hgw)
        replace HS2 := Lib.hid (HS2.out.grows hgw)
        replace HS3 := Lib.hid (HS3.out.grows hgw)
        clear hgw
        generalize w7.alloc (.cells #[.int .i64 1, .int .i64 x, .int .i64 y, .int .i64 n0, .int .i64 n1, .int .i64 n2, .int .i64 n3, .int .i64 0, .int .i64 0, .int .i64 0, .int .i64 0] 48) = w8 at *
        generalize w7.heap.size = sb4 at *
        obtain ⟨F, hFF⟩ : ∃ F, F = bytesOf (total a b c d 4) (wr a b c d 4 (byteAt zs) x y (lows 4 (n0, n1, n2, n3))) := ⟨_, rfl⟩
        have HFL : Hid (F.length ≤ 4000000 ∧ ∀ m ∈ F, -9223372036854775808 ≤ m ∧ m ≤ 9223372036854775807) := by
          rw [hFF]
          exact ⟨by rw [bytesOf_length]; omega, bytesOf_in fun i _ => by have := wr_in255 (a := a) (b := b) (c := c) (d := d) (x := x) (y := y) (k := 4) (byteAt_in zs) (lows_in255 (k := 4) (q := (n0, n1, n2, n3))) i; omega⟩
        have HFF := Lib.hid hFF
        clear hFF
        have HSW1 : Hid (∀ s ∈ ([(4, 0, 0, (0, 0, 0, 0), (a', b', c', d')), (1, x, y, (n0, n1, n2, n3), (0, 0, 0, 0)), (5, 0, 0, (0, 0, 0, 0), (0, 0, 0, 0)), (2, x, y, (0, 0, 0, 0), (0, 0, 0, 0))] : List Stp), ∀ m ∈ nums s, -9223372036854775808 ≤ m ∧ m ≤ 9223372036854775807) := by intro s hs m hm; simp only [List.mem_cons, List.not_mem_nil, or_false] at hs; unfold I64 at *; rcases hs with rfl | rfl | rfl | rfl <;> simp only [nums, List.mem_cons, List.not_mem_nil, or_false] at hm <;> omega
        have HSW2 : Hid (∀ s ∈ ([(1, x, y, (n0, n1, n2, n3), (0, 0, 0, 0)), (4, 0, 0, (0, 0, 0, 0), (a', b', c', d')), (2, x, y, (0, 0, 0, 0), (0, 0, 0, 0))] : List Stp), ∀ m ∈ nums s, -9223372036854775808 ≤ m ∧ m ≤ 9223372036854775807) := by intro s hs m hm; simp only [List.mem_cons, List.not_mem_nil, or_false] at hs; unfold I64 at *; rcases hs with rfl | rfl | rfl <;> simp only [nums, List.mem_cons, List.not_mem_nil, or_false] at hm <;> omega
        obtain ⟨p0, p1, p2, p3⟩ := HB.out
        obtain ⟨x0, x1, x2, x3, x4, x5, x6, x7, x8, x9, x10⟩ := HS1.out.cells
        obtain ⟨y0, y1, y2, y3, y4, y5, y6, y7, y8, y9, y10⟩ := HS2.out.cells
        obtain ⟨z0, z1, z2, z3, z4, z5, z6, z7, z8, z9, z10⟩ := HS3.out.cells
        obtain ⟨v0, v1, v2, v3, v4, v5, v6, v7, v8, v9, v10⟩ := HS4.out.cells
        go_wp2_with fail
        refine (implRun a b c d _ zs _ ([(4, 0, 0, (0, 0, 0, 0), (a', b', c', d')), (1, x, y, (n0, n1, n2, n3), (0, 0, 0, 0)), (5, 0, 0, (0, 0, 0, 0), (0, 0, 0, 0)), (2, x, y, (0, 0, 0, 0), (0, 0, 0, 0))]) _ HF.out (HR.out.grows ((HGW.out.step HG.out).alloc' _)) (RdS.lit (by simp) HSW1.out)).mono ?_
        rintro e w9 ⟨vc, vo, vp, offs, rfl, hC, hO, hP, hoo, _⟩
        have eS := script_share1 (k := 4) (f := byteAt zs) (q := (n0, n1, n2, n3)) (z := (0, 0, 0, 0)) (by omega) HM.out HI.out
        rw [eS] at hC hP hoo
        simp only at hC hP hoo
        clear eS
        clear p0 p1 p2 p3 x0 x1 x2 x3 x4 x5 x6 x7 x8 x9 x10 y0 y1 y2 y3 y4 y5 y6 y7 y8 y9 y10 z0 z1 z2 z3 z4 z5 z6 z7 z8 z9 z10 v0 v1 v2 v3 v4 v5 v6 v7 v8 v9 v10
        rw [← HFF.out] at hP
        obtain ⟨C1, k1, rfl⟩ := hP.form
        obtain ⟨g1, j1, rfl, hcl⟩ := hC.one
        have hgw : Grows w8 w9 := ((Grows.rfl' _).alloc' _).step hC.2
        have HCC1 := Lib.hid hcl
        have HPR1 : Hid (RdI w9 (.slice C1 F.length k1) F) := hP.rd (by have := HFL.out.1; omega) HFL.out.2
        clear hC hO hP hoo hcl
        go_upto_region 9 with fail
        have hga : Grows w9 (w9.alloc (.cells #[.int .i64 a, .int .i64 b, .int .i64 c, .int .i64 d, .int .i64 (sd a c 4), .slice C1 F.length k1] 34)) := (Grows.rfl' _).alloc' _
        have HX1 : Hid (PicAt (w9.alloc (.cells #[.int .i64 a, .int .i64 b, .int .i64 c, .int .i64 d, .int .i64 (sd a c 4), .slice C1 F.length k1] 34)) w9.heap.size a b c d (sd a c 4) (.slice C1 F.length k1)) := heap_alloc_new _ _
        replace HPR1 := Lib.hid (HPR1.out.grows hga)
        replace HCC1 := Lib.hid (fun j m hj => hga.cell_some (HCC1.out j m hj))
        replace hgw := hgw.step hga
        replace HB := Lib.hid (HB.out.grows hgw)
        replace HG := Lib.hid (HG.out.step hgw)
        generalize w9.alloc (.cells #[.int .i64 a, .int .i64 b, .int .i64 c, .int .i64 d, .int .i64 (sd a c 4), .slice C1 F.length k1] 34) = w10 at *
        generalize w9.heap.size = pb1 at *
        obtain ⟨p0, p1, p2, p3⟩ := HB.out
        obtain ⟨x0, x1, x2, x3, x4, x5, x6, x7, x8, x9, x10⟩ := (HS1.out.grows hgw).cells
        obtain ⟨z0, z1, z2, z3, z4, z5, z6, z7, z8, z9, z10⟩ := (HS3.out.grows hgw).cells
        obtain ⟨v0, v1, v2, v3, v4, v5, v6, v7, v8, v9, v10⟩ := (HS4.out.grows hgw).cells
        generalize w10 = w11 at *
        clear hgw hga HS1 HS2 HS3 HS4
        go_wp2_with fail
        refine (implRun a b c d _ zs _ ([(1, x, y, (n0, n1, n2, n3), (0, 0, 0, 0)), (4, 0, 0, (0, 0, 0, 0), (a', b', c', d')), (2, x, y, (0, 0, 0, 0), (0, 0, 0, 0))]) _ HF.out (HR.out.grows ((HGW.out.step HG.out).alloc' _)) (RdS.lit (by simp) HSW2.out)).mono ?_
        rintro e w9 ⟨vc, vo, vp, offs, rfl, hC, hO, hP, hoo, _⟩
        have eS := script_share2 (k := 4) (f := byteAt zs) (q := (n0, n1, n2, n3)) (z := (0, 0, 0, 0)) (by omega) HM.out HI.out
        rw [eS] at hC hP hoo
        simp only at hC hP hoo
        clear eS
        clear p0 p1 p2 p3 x0 x1 x2 x3 x4 x5 x6 x7 x8 x9 x10 z0 z1 z2 z3 z4 z5 z6 z7 z8 z9 z10 v0 v1 v2 v3 v4 v5 v6 v7 v8 v9 v10
        rw [← HFF.out] at hP
        obtain ⟨C2, k2, rfl⟩ := hP.form
        obtain ⟨g2, j2, rfl, hcl⟩ := hC.one
        have hgw : Grows w11 w9 := ((Grows.rfl' _).alloc' _).step hC.2
        have HCC2 := Lib.hid hcl
        have HPR2 : Hid (RdI w9 (.slice C2 F.length k2) F) := hP.rd (by have := HFL.out.1; omega) HFL.out.2
        clear hC hO hP hoo hcl
        go_upto_region 10 with fail
        have hga : Grows w9 (w9.alloc (.cells #[.int .i64 a, .int .i64 b, .int .i64 c, .int .i64 d, .int .i64 (sd a c 4), .slice C2 F.length k2] 34)) := (Grows.rfl' _).alloc' _
        have HX2 : Hid (PicAt (w9.alloc (.cells #[.int .i64 a, .int .i64 b, .int .i64 c, .int .i64 d, .int .i64 (sd a c 4), .slice C2 F.length k2] 34)) w9.heap.size a b c d (sd a c 4) (.slice C2 F.length k2)) := heap_alloc_new _ _
        replace HPR2 := Lib.hid (HPR2.out.grows hga)
        replace HCC2 := Lib.hid (fun j m hj => hga.cell_some (HCC2.out j m hj))
        replace hgw := hgw.step hga
        replace HB := Lib.hid (HB.out.grows hgw)
        replace HG := Lib.hid (HG.out.step hgw)
        generalize w9.alloc (.cells #[.int .i64 a, .int .i64 b, .int .i64 c, .int .i64 d, .int .i64 (sd a c 4), .slice C2 F.length k2] 34) = w10 at *
        generalize w9.heap.size = pb2 at *
        replace HX1 := Lib.hid (HX1.out.grows hgw)
        replace HPR1 := Lib.hid (HPR1.out.grows hgw)
        replace HCC1 := Lib.hid (fun j m hj => hgw.cell_some (HCC1.out j m hj))
        clear hgw hga
        have HWR : Hid (∀ W, Grows w10 W → Calls Try.prog 23 #[box4 a b c d, .slice A zs.length cc, .int .i64 x, .int .i64 y, box4 n0 n1 n2 n3] W fun e w' => ∃ v, e = .returned v ∧ Grows W w' ∧ IsPic a b c d (sd a c 4) F v w') := by
          intro W hW
          refine (write_any a b c d x y n0 n1 n2 n3 _ zs W HF.out (HR.out.grows (HGW.out.step (HG.out.step hW)))).mono ?_
          rintro e w' ⟨v, rfl, ho⟩
          have ho' : OwnI W w' v F := by rw [HFF.out]; exact ho
          exact ⟨_, rfl, ho.2, v, rfl, ho'.rd (by have := HFL.out.1; omega) HFL.out.2⟩
        apply wp_region_lex_lit 41 (by kernel_rfl) (by kernel_rfl)
        iterate 37
          apply lex_pin
          · intro wq hgq hdq Kq hKq
            obtain ⟨p0, p1, p2, p3⟩ := HB.out.grows ((Grows.rfl' _).drew'.step hgq)
            obtain ⟨t0, t1, t2, t3, t4, t5⟩ := (HX1.out.grows ((Grows.rfl' _).drew'.step hgq)).cells
            obtain ⟨u0, u1, u2, u3, u4, u5⟩ := (HX2.out.grows ((Grows.rfl' _).drew'.step hgq)).cells
            have hp1 := HPR1.out.grows ((Grows.rfl' _).drew'.step hgq)
            have hp2 := HPR2.out.grows ((Grows.rfl' _).drew'.step hgq)
            have c10 := hgq.cell_some (HCC1.out 0 _ rfl)
            have c11 := hgq.cell_some (HCC1.out 1 _ rfl)
            have c12 := hgq.cell_some (HCC1.out 2 _ rfl)
            have c13 := hgq.cell_some (HCC1.out 3 _ rfl)
            have c20 := hgq.cell_some (HCC2.out 0 _ rfl)
            have c21 := hgq.cell_some (HCC2.out 1 _ rfl)
            have c22 := hgq.cell_some (HCC2.out 2 _ rfl)
            have c23 := hgq.cell_some (HCC2.out 3 _ rfl)
            obtain ⟨m0, m1, m2, m3⟩ := HCB.out.grows (HG.out.drew'.step hgq)
            go_wp2_with ((first | (go_at_call 22; refine (lowColor_any _ _ _ _ _).mono ?_) | (go_at_call 18; refine (samePicture_yes a b c d (sd a c 4) _ _ F _ ⟨_, rfl, hp1⟩ ⟨_, rfl, hp2⟩).mono ?_) | (go_at_call 21; refine (asColor_any _ _ _ _ _).mono ?_)); rintro e wq' ⟨rfl, hgq'⟩)
            first | exact hKq _ (Grows.rfl' _) | exact hKq _ hgq'
          · kernel_rfl
        apply lex_any (IsPic a b c d (sd a c 4) F) IsPic.keep
        · intro wq hgq hdq Kq hKq
          have HW := Lib.hid (HWR.out _ ((Grows.rfl' _).drew'.step hgq))
          clear hdq
          go_wp2_with fail
          refine HW.out.mono ?_
          rintro e wq' ⟨v', rfl, hgq', hp⟩
          go_wp2_with fail
          exact hKq _ _ hgq' hp
        intro vw
        simp only [Act.put, List.setIfInBounds_toArray, List.set_cons_succ, List.set_cons_zero]
        apply lex_pinv (.bool true)
        · intro wq hgq hdq Kq hKq
          have H2 := Lib.hid (hdq 37 _ rfl (by kernel_rfl))
          clear hdq
          have hp1 := HPR1.out.grows ((Grows.rfl' _).drew'.step hgq)
          go_wp2_with fail
          refine (samePicture_yes a b c d (sd a c 4) _ _ F _ ⟨_, rfl, hp1⟩ H2.out).mono ?_
          rintro e wq' ⟨rfl, hgq'⟩
          go_wp2_with fail
          exact hKq _ hgq'
        simp only [Act.put, List.setIfInBounds_toArray, List.set_cons_succ, List.set_cons_zero]
        iterate 2
          apply lex_pinv
          · intro wq hgq hdq Kq hKq
            go_wp2
            exact hKq _ (Grows.rfl' _)
          simp only [Act.put, List.setIfInBounds_toArray, List.set_cons_succ, List.set_cons_zero]
        refine lex_end ?_
        intro w12 hg12 _
        go_wp2
        go_ret
        exact ⟨rfl, HGW.out.step (HG.out.drew'.step hg12)⟩
      · have HI := Lib.hid hi
        clear hi
        go_wp2_with fail
        refine (has_no _ _ _ _ _ _ _ HI.out).mono ?_
        rintro e w5 ⟨rfl, hg5⟩
        go_wp2_with fail
        go_ret
        exact ⟨rfl, HGW.out.step (HG.out.step hg5)⟩
    · have HF := Lib.hid hf
      clear hf
      go_wp2_with fail
      refine (fine_no _ _ _ _ _ HF.out ha hb).mono ?_
      rintro e w5 ⟨rfl, hg5⟩
      go_wp2_with fail
      go_ret
      exact ⟨rfl, HGW.out.step (HG.out.step hg5)⟩
  · have HM := Lib.hid hm
    clear hm
    apply wp_region_flo_lit 9 (by kernel_rfl) (by kernel_rfl)
    iterate 7
      apply flo_pin
      · intro wq hgq hdq Kq hKq
        obtain ⟨p0, p1, p2, p3⟩ := HB.out.grows ((Grows.rfl' _).drew'.step hgq)
        obtain ⟨n0', n1', n2', n3'⟩ := HN.out.grows ((Grows.rfl' _).drew'.step hgq)
        go_wp2_with ((first | (go_at_call 10; refine (asRect_any _ _ _ _ _).mono ?_) | (go_at_call 19; refine (common_no _ _ _ _ _ _ _ _ _ HM.out).mono ?_)); rintro e wq' ⟨rfl, hgq'⟩)
        first | exact hKq _ (Grows.rfl' _) | exact hKq _ hgq'
      · kernel_rfl
      intro _
    apply flo_any (RectBox w2) RectBox.keep
    · intro wq hgq hdq Kq hKq
      have hsz4 : w2.heap.size ≤ wq.heap.size := hgq.size
      go_wp2
      exact hKq _ _ ((Grows.rfl' _).alloc' _) ⟨wq.heap.size, rfl, hsz4, _, _, _, _, heap_alloc_new _ _⟩
    · kernel_rfl
    intro vx
    simp only [Act.put, List.setIfInBounds_toArray, List.set_cons_succ, List.set_cons_zero]
    apply flo_put 7 vx (RectIn w2 (0) (0) (0) (0)) RectIn.keep rfl rfl (by kernel_rfl)
    · intro wq hgq hdq Kq hKq
      obtain ⟨rb, rfl, hrb, r1, r2, r3, r4, kb⟩ := hdq 7 _ rfl (by kernel_rfl)
      clear hdq
      have KS := Lib.hid ((((kb.set0 (0)).set1 (0)).set2 (0)).set3 (0))
      have HGS := Lib.hid ((((hgq.set' (p := ⟨rb, 0, none⟩) hrb (.int .i64 (0))).set' (p := ⟨rb, 1, none⟩) hrb (.int .i64 (0))).set' (p := ⟨rb, 2, none⟩) hrb (.int .i64 (0))).set' (p := ⟨rb, 3, none⟩) hrb (.int .i64 (0)))
      obtain ⟨k0, k1, k2, k3⟩ := kb.cells
      have kf := kb.frozen
      clear kb
      go_wp2
      refine hKq _ HGS.out ?_ ⟨rb, rfl, hrb, KS.out⟩
      repeat' first | exact Keeps.nil | refine Keeps.idle ?_ | refine Keeps.snoc ?_ ?_
      intro h
      exact ⟨rb, rfl, hrb, _, _, _, _, KS.out⟩
    · kernel_rfl
    intro _
    refine flo_end ?_
    intro w3 hg3 hd3
    obtain ⟨rb, rfl, hrb, kb⟩ := hd3 8 _ rfl
    clear hd3
    have HGS : Hid (Grows w2 w3) := (Grows.rfl' _).drew'.step hg3
    have KS := Lib.hid kb
    clear hg3 kb
    go_upto_region 3 with fail
    replace HB := Lib.hid (HB.out.grows HGS.out)
    replace HN := Lib.hid (HN.out.grows HGS.out)
    replace HR0 := Lib.hid (HR0.out.grows HGS.out)
    replace HG := Lib.hid (HG.out.step HGS.out)
    obtain ⟨r0, r1, r2, r3⟩ := HR0.out
    by_cases hf : Fine a b c d
    · have HF := Lib.hid hf
      clear hf
      go_wp2_with fail
      refine (fine_yes _ _ _ _ _ HF.out).mono ?_
      rintro e w5 ⟨rfl, hg5⟩
      go_wp2_with fail
      go_ret
      exact ⟨rfl, HGW.out.step (HG.out.step hg5)⟩
    · have HF := Lib.hid hf
      clear hf
      go_wp2_with fail
      refine (fine_no _ _ _ _ _ HF.out ha hb).mono ?_
      rintro e w5 ⟨rfl, hg5⟩
      go_wp2_with fail
      go_ret
      exact ⟨rfl, HGW.out.step (HG.out.step hg5)⟩

set_option linter.unusedVariables false
set_option maxRecDepth 100000 in
theorem lifted (os : Os) (started : os.Started) (H : Type) (enc : TypeId × Value → H) :
    ReturnsInHanded {} Try.checked os 5 .any (Rows.fnCMYKSharedSpec.pre6 enc Try.prog Try.f5 Rows.fnCMYKSharedRow.domain false) (Rows.fnCMYKSharedSpec.post enc Try.prog Try.f5 false true false false) := by
  refine returnsInHanded_of_change_sized (C := Try.checked) own started (by kernel_rfl) Try.func5
    (ChangeSpec.witness6 (enc := enc) (C := Try.checked) false ⟨#[], #[.agg #[.int .i64 0, .int .i64 0, .int .i64 0, .int .i64 0], .slice none 0 0, .agg #[.int .i64 0, .int .i64 0, .int .i64 0, .int .i64 0], .int .i64 0, .int .i64 0, .agg #[.int .i64 0, .int .i64 0, .int .i64 0, .int .i64 0]], []⟩ 8 (by kernel_rfl) (by kernel_rfl) (by kernel_rfl) (by kernel_rfl)) ?_
  intro W base args ds gs before hval0 hW hcnd hsz0 _
  have hval : ∀ (j : Nat) t v, Try.f5.params[j]? = some t → args[j]? = some v → Value.okWide Try.prog W .any base t v := hval0
  have hsz : (DataW.weightsEach Try.prog (Try.f5.params.toList ++ Rows.fnCMYKSharedSpec.plain.varTypes Try.prog) (ds ++ gs)).all (· ≤ reachBytes) = true := hsz0
  clear hsz0
  have hW' := hW
  obtain ⟨p, q, hA0, hV, rfl, hfz, hnd⟩ := hW
  have hA : DataW.TrodAll enc Try.prog W 0 (fun _ => true) true Try.f5.params.toList args.toList ds p := hA0
  rw [Try.params5] at hA hval hsz
  obtain ⟨v0, vs0, d0, ds0, p0, q0, hargs, rfl, rfl, h0, r0⟩ := trodAll_cons hA
  obtain ⟨v1, vs1, d1, ds1, p1, q1, rfl, rfl, rfl, h1, r1⟩ := trodAll_cons r0
  obtain ⟨v2, vs2, d2, ds2, p2, q2, rfl, rfl, rfl, h2, r2⟩ := trodAll_cons r1
  obtain ⟨v3, vs3, d3, ds3, p3, q3, rfl, rfl, rfl, h3, r3⟩ := trodAll_cons r2
  obtain ⟨v4, vs4, d4, ds4, p4, q4, rfl, rfl, rfl, h4, r4⟩ := trodAll_cons r3
  obtain ⟨v5, vs5, d5, ds5, p5, q5, rfl, rfl, rfl, h5, r5⟩ := trodAll_cons r4
  obtain ⟨rfl, rfl, rfl⟩ := trodAll_nil r5
  obtain rfl : args = #[v0, v1, v2, v3, v4, v5] := by cases args; simp_all
  obtain ⟨rfl, rfl⟩ := trodVars_none hV
  have k0 := h0
  have lt0 : ∀ x ∈ p0, x.block < W.heap.size := by obtain ⟨m, hm⟩ := k0; exact DataW.trod_lt m _ _ _ hm
  have k1 := h1
  have lt1 : ∀ x ∈ p1, x.block < W.heap.size := by obtain ⟨m, hm⟩ := k1; exact DataW.trod_lt m _ _ _ hm
  have k2 := h2
  have lt2 : ∀ x ∈ p2, x.block < W.heap.size := by obtain ⟨m, hm⟩ := k2; exact DataW.trod_lt m _ _ _ hm
  have k3 := h3
  have lt3 : ∀ x ∈ p3, x.block < W.heap.size := by obtain ⟨m, hm⟩ := k3; exact DataW.trod_lt m _ _ _ hm
  have k4 := h4
  have lt4 : ∀ x ∈ p4, x.block < W.heap.size := by obtain ⟨m, hm⟩ := k4; exact DataW.trod_lt m _ _ _ hm
  have k5 := h5
  have lt5 : ∀ x ∈ p5, x.block < W.heap.size := by obtain ⟨m, hm⟩ := k5; exact DataW.trod_lt m _ _ _ hm
  obtain ⟨s0a, s0b, s0c, s0d, rfl, ⟨b0a, b0b, b0c, b0d⟩⟩ := open_four Try.underlying23 (by kernel_rfl) cells23 (hval 0 23 v0 rfl rfl) h0
  obtain ⟨z1, hz1⟩ := open_list (hval 1 24 v1 rfl rfl) h1 (fun el sp hd => by subst hd; exact sized_slice hsz (j := 1) (t := 24) (e := 3) rfl rfl Try.underlying24)
  obtain ⟨s2a, s2b, s2c, s2d, rfl, ⟨b2a, b2b, b2c, b2d⟩⟩ := open_four Try.underlying23 (by kernel_rfl) cells23 (hval 2 23 v2 rfl rfl) h2
  obtain ⟨x3, rfl, he3, _, w3⟩ := open_int Try.underlying3 (hval 3 3 v3 rfl rfl) h3
  obtain ⟨x4, rfl, he4, _, w4⟩ := open_int Try.underlying3 (hval 4 3 v4 rfl rfl) h4
  obtain ⟨s5a, s5b, s5c, s5d, rfl, ⟨b5a, b5b, b5c, b5d⟩⟩ := open_four Try.underlying42 (by kernel_rfl) cells42 (hval 5 42 v5 rfl rfl) h5
  refine (walk s0a s0b s0c s0d v1 z1 s2a s2b s2c s2d x3 x4 s5a s5b s5c s5d W b0a b0b b0c b0d hz1 b2a b2b b2c b2d (bounds_i64 w3) (bounds_i64 w4) b5a b5b b5c b5d).mono fun e W' ⟨he, bel⟩ => ?_
  subst he
  exact ⟨_, rfl, _, _, _, [], _, [], hW', trodAll_mk1 (shut_bool Try.underlying4 _), (trodAll_cons_mk (Below.trod laidOut (by kernel_rfl) (of_decide_eq_true (by kernel_rfl)) k0 bel lt0) (trodAll_cons_mk (Below.trod laidOut (by kernel_rfl) (of_decide_eq_true (by kernel_rfl)) k1 bel lt1) (trodAll_cons_mk (Below.trod laidOut (by kernel_rfl) (of_decide_eq_true (by kernel_rfl)) k2 bel lt2) (trodAll_cons_mk (Below.trod laidOut (by kernel_rfl) (of_decide_eq_true (by kernel_rfl)) k3 bel lt3) (trodAll_cons_mk (Below.trod laidOut (by kernel_rfl) (of_decide_eq_true (by kernel_rfl)) k4 bel lt4) (trodAll_cons_mk (Below.trod laidOut (by kernel_rfl) (of_decide_eq_true (by kernel_rfl)) k5 bel lt5) trodAll_mk0)))))), rfl, bel.frame _, fun h => by cases h⟩

theorem proved : Rows.FnCMYKSharedSaid :=
  OpenClaim.holds_of_wide 5 Try.f5 rfl rfl rfl rfl rfl rfl rfl ⟨rfl, rfl, rfl, rfl, rfl⟩ rfl rfl rfl rfl rfl (by kernel_rfl) Try.func5 (by kernel_rfl)
    (of_decide_eq_true (by kernel_rfl)) (by unfold Func.isWrapper; first | (rw [if_pos (by decide +kernel)]; kernel_rfl) | (rw [if_neg (by decide +kernel)]; exact ⟨rfl, rfl⟩))
    (fun os started H enc _ => lifted os started H enc)
#print axioms proved
end Go.Proofs.Ytbedollfokdldaa.lawCMYKShared

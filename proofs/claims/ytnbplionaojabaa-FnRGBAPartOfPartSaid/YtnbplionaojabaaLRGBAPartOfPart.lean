/-
  FnRGBAPartOfPart returns true for every input, and each argument reads afterwards as before. Conditions: none beyond the row's own.
-/
import Derived.Test.YtnbplionaojabaaRun
import Derived.Test.YtnbplionaojabaaScript
import Derived.Test.YtnbplionaojabaaFlo
import Derived.Test.YtnbplionaojabaaLift
import Derived.Deep.Cut
import Derived.BigRegion
import Derived.Deep.CutRange
namespace Go.Proofs.Ytnbplionaojabaa.lawRGBAPartOfPart
open Go.ChangeShapes Go.WideShapes Go.ChangeAt Go.RowKit
set_option linter.unusedVariables false

theorem lit0 (w : World) (T : TypeId) : RdI (w.alloc (.cells #[.int .i64 0] T)) (.slice (some ⟨w.heap.size, 0, none⟩) 1 1) [0] :=
  ⟨_, 1, rfl, by simp, by omega, by simp, by simp, fun j n hj => ⟨w.heap.size, 0, rfl, cell_top rfl (by
    match j, hj with
    | 0, hj => simp at hj; subst hj; rfl
    | j + 1, hj => simp at hj)⟩⟩

set_option maxRecDepth 20000 in
set_option maxHeartbeats 8000000 in
theorem walk (a b c d : Int) (vv : Value) (zs : List Int) (a' b' c' d' a'' b'' c'' d'' x y : Int) (w : World) (ha : I64 a) (hb : I64 b) (hc : I64 c) (hd : I64 d) (h : RdI w vv zs) (ha' : I64 a') (hb' : I64 b') (hc' : I64 c') (hd' : I64 d') (ha'' : I64 a'') (hb'' : I64 b'') (hc'' : I64 c'') (hd'' : I64 d'') (hx : I64 x) (hy : I64 y) :
    Calls Try.prog 6 #[box4 a b c d, vv, box4 a' b' c' d', box4 a'' b'' c'' d'', .int .i64 x, .int .i64 y] w fun e w' => e = .returned (.bool true) ∧ Grows w w' := by
  have HR := Lib.hid h
  obtain ⟨A, cc, rfl, _⟩ := h
  go_enter Try.func6, Try.ntmps6
  go_upto_region 1 with fail
  have HGW : Hid (Grows w (((w.alloc (.cells #[.int .i64 a, .int .i64 b, .int .i64 c, .int .i64 d] 23)).alloc (.cells #[.int .i64 a', .int .i64 b', .int .i64 c', .int .i64 d'] 23)).alloc (.cells #[.int .i64 a'', .int .i64 b'', .int .i64 c'', .int .i64 d''] 23))) := (((Grows.rfl' w).alloc' _).alloc' _).alloc' _
  have HB0 : Hid (BoxAt (((w.alloc (.cells #[.int .i64 a, .int .i64 b, .int .i64 c, .int .i64 d] 23)).alloc (.cells #[.int .i64 a', .int .i64 b', .int .i64 c', .int .i64 d'] 23)).alloc (.cells #[.int .i64 a'', .int .i64 b'', .int .i64 c'', .int .i64 d''] 23)) w.heap.size a b c d) := BoxAt.grows ⟨cell_top rfl rfl, cell_top rfl rfl, cell_top rfl rfl, cell_top rfl rfl⟩ (((Grows.rfl' _).alloc' _).alloc' _)
  have HN : Hid (BoxAt (((w.alloc (.cells #[.int .i64 a, .int .i64 b, .int .i64 c, .int .i64 d] 23)).alloc (.cells #[.int .i64 a', .int .i64 b', .int .i64 c', .int .i64 d'] 23)).alloc (.cells #[.int .i64 a'', .int .i64 b'', .int .i64 c'', .int .i64 d''] 23)) (w.heap.size + 1) a' b' c' d') := BoxAt.grows ⟨cell_top (by simp) rfl, cell_top (by simp) rfl, cell_top (by simp) rfl, cell_top (by simp) rfl⟩ ((Grows.rfl' _).alloc' _)
  have HT : Hid (BoxAt (((w.alloc (.cells #[.int .i64 a, .int .i64 b, .int .i64 c, .int .i64 d] 23)).alloc (.cells #[.int .i64 a', .int .i64 b', .int .i64 c', .int .i64 d'] 23)).alloc (.cells #[.int .i64 a'', .int .i64 b'', .int .i64 c'', .int .i64 d''] 23)) (w.heap.size + 2) a'' b'' c'' d'') := ⟨cell_top (by simp) rfl, cell_top (by simp) rfl, cell_top (by simp) rfl, cell_top (by simp) rfl⟩
  generalize ((w.alloc (.cells #[.int .i64 a, .int .i64 b, .int .i64 c, .int .i64 d] 23)).alloc (.cells #[.int .i64 a', .int .i64 b', .int .i64 c', .int .i64 d'] 23)).alloc (.cells #[.int .i64 a'', .int .i64 b'', .int .i64 c'', .int .i64 d''] 23) = W0 at *
  obtain ⟨q0, q1, q2, q3⟩ := HB0.out
  go_wp2_with fail
  refine (asRect_any _ _ _ _ _).mono ?_
  rintro e w1 ⟨rfl, hg1⟩
  clear q0 q1 q2 q3
  obtain ⟨q0, q1, q2, q3⟩ := HB0.out.grows hg1
  replace HN := Lib.hid (HN.out.grows hg1)
  have HG := Lib.hid hg1
  clear hg1
  go_upto_region 2 with fail
  have HB : Hid (BoxAt (w1.alloc (.cells #[.int .i64 a, .int .i64 b, .int .i64 c, .int .i64 d] 26)) w1.heap.size a b c d) := ⟨cell_top rfl rfl, cell_top rfl rfl, cell_top rfl rfl, cell_top rfl rfl⟩
  have hgw : Grows w1 (w1.alloc (.cells #[.int .i64 a, .int .i64 b, .int .i64 c, .int .i64 d] 26)) := (Grows.rfl' _).alloc' _
  replace HN := Lib.hid (HN.out.grows hgw)
  have HR0 : Hid (BoxAt (w1.alloc (.cells #[.int .i64 a, .int .i64 b, .int .i64 c, .int .i64 d] 26)) w.heap.size a b c d) := BoxAt.grows ⟨q0, q1, q2, q3⟩ hgw
  replace HG := Lib.hid (HG.out.step hgw)
  clear hgw q0 q1 q2 q3
  generalize w1.alloc (.cells #[.int .i64 a, .int .i64 b, .int .i64 c, .int .i64 d] 26) = w2 at *
  generalize w1.heap.size = bx at *
  by_cases hm : Meet a b c d a' b' c' d'
  · have HM := Lib.hid hm
    clear hm
    apply wp_region_flo_lit 9 (by kernel_rfl) (by kernel_rfl)
    iterate 7
      apply flo_pin
      · intro wq hgq hdq Kq hKq
        obtain ⟨p0, p1, p2, p3⟩ := HB.out.grows ((Grows.rfl' _).drew'.step hgq)
        obtain ⟨n0', n1', n2', n3'⟩ := HN.out.grows ((Grows.rfl' _).drew'.step hgq)
        go_wp2_with ((first | (go_at_call 10; refine (asRect_any _ _ _ _ _).mono ?_) | (go_at_call 19; refine (common_yes _ _ _ _ _ _ _ _ _ HM.out).mono ?_)); rintro e wq' ⟨rfl, hgq'⟩)
        first | exact hKq _ (Grows.rfl' _) | exact hKq _ hgq'
      · kernel_rfl
      intro _
    apply flo_any (RectBox w2) RectBox.keep
    · intro wq hgq hdq Kq hKq
      have hsz4 : w2.heap.size ≤ wq.heap.size := hgq.size
      go_wp2
      exact hKq _ _ ((Grows.rfl' _).alloc' _) ⟨wq.heap.size, rfl, hsz4, _, _, _, _, heap_alloc_new _ _⟩
    · kernel_rfl
    intro vx
    simp only [Act.put, List.setIfInBounds_toArray, List.set_cons_succ, List.set_cons_zero]
    apply flo_put 7 vx (RectIn w2 (max a a') (max b b') (min c c') (min d d')) RectIn.keep rfl rfl (by kernel_rfl)
    · intro wq hgq hdq Kq hKq
      obtain ⟨rb, rfl, hrb, r1, r2, r3, r4, kb⟩ := hdq 7 _ rfl (by kernel_rfl)
      clear hdq
      have KS := Lib.hid ((((kb.set0 (max a a')).set1 (max b b')).set2 (min c c')).set3 (min d d'))
      have HGS := Lib.hid ((((hgq.set' (p := ⟨rb, 0, none⟩) hrb (.int .i64 (max a a'))).set' (p := ⟨rb, 1, none⟩) hrb (.int .i64 (max b b'))).set' (p := ⟨rb, 2, none⟩) hrb (.int .i64 (min c c'))).set' (p := ⟨rb, 3, none⟩) hrb (.int .i64 (min d d')))
      obtain ⟨k0, k1, k2, k3⟩ := kb.cells
      have kf := kb.frozen
      clear kb
      go_wp2
      refine hKq _ HGS.out ?_ ⟨rb, rfl, hrb, KS.out⟩
      repeat' first | exact Keeps.nil | refine Keeps.idle ?_ | refine Keeps.snoc ?_ ?_
      intro h
      exact ⟨rb, rfl, hrb, _, _, _, _, KS.out⟩
    · kernel_rfl
    intro _
    refine flo_end ?_
    intro w3 hg3 hd3
    obtain ⟨rb, rfl, hrb, kb⟩ := hd3 8 _ rfl
    clear hd3
    have HGS : Hid (Grows w2 w3) := (Grows.rfl' _).drew'.step hg3
    have KS := Lib.hid kb
    clear hg3 kb
    go_upto_region 3 with fail
    replace HB := Lib.hid (HB.out.grows HGS.out)
    replace HN := Lib.hid (HN.out.grows HGS.out)
    replace HR0 := Lib.hid (HR0.out.grows HGS.out)
    replace HG := Lib.hid (HG.out.step HGS.out)
    have HM' := Lib.hid HM.out
    generalize hA1 : max a a' = A1 at *
    generalize hB1 : max b b' = B1 at *
    generalize hC1 : min c c' = C1 at *
    generalize hD1 : min d d' = D1 at *
    have HE1 : Hid (max a a' = A1 ∧ max b b' = B1 ∧ min c c' = C1 ∧ min d d' = D1) := ⟨hA1, hB1, hC1, hD1⟩
    clear hA1 hB1 hC1 hD1
    obtain ⟨r0, r1, r2, r3⟩ := HR0.out
    by_cases hf : Fine a b c d
    · have HF := Lib.hid hf
      have htl := total_le (k := 4) (by omega) hf
      clear hf
      go_wp2_with fail
      refine (fine_yes _ _ _ _ _ HF.out).mono ?_
      rintro e w4 ⟨rfl, hg4⟩
      replace HB := Lib.hid (HB.out.grows hg4)
      replace HN := Lib.hid (HN.out.grows hg4)
      replace KS := Lib.hid (KS.out.grows hg4)
      replace HG := Lib.hid (HG.out.step hg4)
      replace HT := Lib.hid (HT.out.grows HG.out)
      clear hg4 r0 r1 r2 r3 HR0 HGS HB0
      go_upto_region 5 with fail
      by_cases hm2 : Meet A1 B1 C1 D1 a'' b'' c'' d''
      · have HM2 := Lib.hid hm2
        clear hm2
        apply wp_region_flo_lit 9 (by kernel_rfl) (by kernel_rfl)
        iterate 7
          apply flo_pin
          · intro wq hgq hdq Kq hKq
            obtain ⟨p0, p1, p2, p3⟩ := (KS.out.grows ((Grows.rfl' _).drew'.step hgq)).cells
            obtain ⟨n0', n1', n2', n3'⟩ := HT.out.grows ((Grows.rfl' _).drew'.step hgq)
            go_wp2_with ((first | (go_at_call 10; refine (asRect_any _ _ _ _ _).mono ?_) | (go_at_call 19; refine (common_yes _ _ _ _ _ _ _ _ _ HM2.out).mono ?_)); rintro e wq' ⟨rfl, hgq'⟩)
            first | exact hKq _ (Grows.rfl' _) | exact hKq _ hgq'
          · kernel_rfl
          intro _
        apply flo_any (RectBox w4) RectBox.keep
        · intro wq hgq hdq Kq hKq
          have hsz4 : w4.heap.size ≤ wq.heap.size := hgq.size
          go_wp2
          exact hKq _ _ ((Grows.rfl' _).alloc' _) ⟨wq.heap.size, rfl, hsz4, _, _, _, _, heap_alloc_new _ _⟩
        · kernel_rfl
        intro vx
        simp only [Act.put, List.setIfInBounds_toArray, List.set_cons_succ, List.set_cons_zero]
        apply flo_put 7 vx (RectIn w4 (max A1 a'') (max B1 b'') (min C1 c'') (min D1 d'')) RectIn.keep rfl rfl (by kernel_rfl)
        · intro wq hgq hdq Kq hKq
          obtain ⟨rb, rfl, hrb, r1, r2, r3, r4, kb⟩ := hdq 7 _ rfl (by kernel_rfl)
          clear hdq
          have KS := Lib.hid ((((kb.set0 (max A1 a'')).set1 (max B1 b'')).set2 (min C1 c'')).set3 (min D1 d''))
          have HGS := Lib.hid ((((hgq.set' (p := ⟨rb, 0, none⟩) hrb (.int .i64 (max A1 a''))).set' (p := ⟨rb, 1, none⟩) hrb (.int .i64 (max B1 b''))).set' (p := ⟨rb, 2, none⟩) hrb (.int .i64 (min C1 c''))).set' (p := ⟨rb, 3, none⟩) hrb (.int .i64 (min D1 d'')))
          obtain ⟨k0, k1, k2, k3⟩ := kb.cells
          have kf := kb.frozen
          clear kb
          go_wp2
          refine hKq _ HGS.out ?_ ⟨rb, rfl, hrb, KS.out⟩
          repeat' first | exact Keeps.nil | refine Keeps.idle ?_ | refine Keeps.snoc ?_ ?_
          intro h
          exact ⟨rb, rfl, hrb, _, _, _, _, KS.out⟩
        · kernel_rfl
        intro _
        refine flo_end ?_
        intro w5 hg5 hd5
        obtain ⟨ra, rfl, hra, ka⟩ := hd5 8 _ rfl
        clear hd5
        have HGA : Hid (Grows w4 w5) := (Grows.rfl' _).drew'.step hg5
        have KA := Lib.hid ka
        clear hg5 ka
        go_upto_region 6 with fail
        replace HB := Lib.hid (HB.out.grows HGA.out)
        replace HN := Lib.hid (HN.out.grows HGA.out)
        replace HT := Lib.hid (HT.out.grows HGA.out)
        replace HG := Lib.hid (HG.out.step HGA.out)
        generalize hA2 : max A1 a'' = A2 at *
        generalize hB2 : max B1 b'' = B2 at *
        generalize hG2 : min C1 c'' = G2 at *
        generalize hD2 : min D1 d'' = D2 at *
        have HE2 : Hid (max A1 a'' = A2 ∧ max B1 b'' = B2 ∧ min C1 c'' = G2 ∧ min D1 d'' = D2) := ⟨hA2, hB2, hG2, hD2⟩
        clear hA2 hB2 hG2 hD2
        clear KS HGA
        obtain ⟨r0, r1, r2, r3⟩ := KA.out.cells
        by_cases hi : Inn A2 B2 G2 D2 x y
        · have HI := Lib.hid hi
          clear hi
          go_wp2_with fail
          refine (has_yes _ _ _ _ _ _ _ HI.out).mono ?_
          rintro e w6 ⟨rfl, hg6⟩
          replace HB := Lib.hid (HB.out.grows hg6)
          replace HN := Lib.hid (HN.out.grows hg6)
          replace HT := Lib.hid (HT.out.grows hg6)
          replace KA := Lib.hid (KA.out.grows hg6)
          replace HG := Lib.hid (HG.out.step hg6)
          clear hg6 r0 r1 r2 r3
          go_upto_region 8 with fail
          obtain ⟨r0, r1, r2, r3⟩ := KA.out.cells
          go_cut [18, 19] from 58 to 65 (fun v18 v19 wx => ∃ s1 s2, v18 = .pointer (some ⟨s1, 0, none⟩) ∧ v19 = .pointer (some ⟨s2, 0, none⟩) ∧ StpAt wx s1 (2, x, y, (0, 0, 0, 0), (0, 0, 0, 0)) ∧ StpAt wx s2 (3, A2, B2, (0, 0, 0, 0), (0, 0, 0, 0)) ∧ Grows w6 wx)
          case first =>
            have hlt : ra < w6.heap.size := cell_lt r0
            clear HR HE1 HE2 HM HM2 HI HB HN HT KA HG HGW HF
            go_big_region
            all_goals
              go_wp2
              go_meet
              case rel =>
                first
                | exact ⟨w6.heap.size, w6.heap.size + 1, rfl, rfl, (StpAt.top (2, x, y, (0, 0, 0, 0), (0, 0, 0, 0)) rfl).grows (((Grows.rfl' _).alloc' _).drew'), (StpAt.top (3, A2, B2, (0, 0, 0, 0), (0, 0, 0, 0)) (by simp)).grows ((Grows.rfl' _).drew'), (((Grows.rfl' _).alloc' _).alloc' _).drew'⟩
                | exact ⟨w6.heap.size + 1, w6.heap.size, rfl, rfl, (StpAt.top (2, x, y, (0, 0, 0, 0), (0, 0, 0, 0)) (by simp)).grows ((Grows.rfl' _).drew'), (StpAt.top (3, A2, B2, (0, 0, 0, 0), (0, 0, 0, 0)) rfl).grows (((Grows.rfl' _).alloc' _).drew'), (((Grows.rfl' _).alloc' _).alloc' _).drew'⟩
          case rest =>
            obtain ⟨s1, s2, rfl, rfl, hs1, hs2, hgc⟩ := hcut
            have HS1 := Lib.hid hs1
            have HS2 := Lib.hid hs2
            replace HB := Lib.hid (HB.out.grows hgc)
            replace HN := Lib.hid (HN.out.grows hgc)
            replace HT := Lib.hid (HT.out.grows hgc)
            replace KA := Lib.hid (KA.out.grows hgc)
            replace HG := Lib.hid (HG.out.step hgc)
            clear hs1 hs2 hgc r0 r1 r2 r3
            generalize wc = wb at *
            have hwf : I64 A2 ∧ I64 B2 ∧ I64 G2 ∧ I64 D2 := by
              have e1 := HE1.out
              have e2 := HE2.out
              unfold I64 at *
              omega
            have hins : Inn a b c d x y := by
              have e1 := HE1.out
              have e2 := HE2.out
              have e3 := HI.out
              unfold Inn at *
              omega
            have hsub : a ≤ A2 ∧ G2 ≤ c ∧ b ≤ B2 ∧ D2 ≤ d ∧ A2 < G2 ∧ B2 < D2 := by
              have e1 := HE1.out
              have e2 := HE2.out
              have e3 := HM2.out
              unfold Meet at e3
              omega
            have HSB2 := Lib.hid hsub
            have HINS := Lib.hid hins
            clear hsub hins
            obtain ⟨F, hFF⟩ : ∃ F, F = bytesOf (total a b c d 4) (byteAt zs) := ⟨_, rfl⟩
            have HFL : Hid (F.length ≤ 4000000 ∧ ∀ m ∈ F, -9223372036854775808 ≤ m ∧ m ≤ 9223372036854775807) := by
              rw [hFF]
              exact ⟨by rw [bytesOf_length]; omega, bytesOf_in fun i _ => by have := byteAt_in zs i; omega⟩
            have HFF := Lib.hid hFF
            clear hFF
            have HU0 : Hid (bytesOf 4 (fun j => byteAt zs (pos a b c 4 x y + j)) = [byteAt zs (pos a b c 4 x y + 0), byteAt zs (pos a b c 4 x y + 1), byteAt zs (pos a b c 4 x y + 2), byteAt zs (pos a b c 4 x y + 3)]) := Lib.hid rfl
            have HRD : Hid (∀ W, Grows wb W → Calls Try.prog 24 #[box4 a b c d, .slice A zs.length cc, .int .i64 x, .int .i64 y] W fun e w' => e = .returned (.agg #[.int .i64 (byteAt zs (pos a b c 4 x y + 0)), .int .i64 (byteAt zs (pos a b c 4 x y + 1)), .int .i64 (byteAt zs (pos a b c 4 x y + 2)), .int .i64 (byteAt zs (pos a b c 4 x y + 3))]) ∧ Grows W w') := by
              intro W hW
              have h := read_any a b c d x y _ zs W HF.out (HR.out.grows (HGW.out.step (HG.out.step hW)))
              simp only [px_pos HINS.out] at h
              exact h
            generalize byteAt zs (pos a b c 4 x y + 0) = u0 at *
            generalize byteAt zs (pos a b c 4 x y + 1) = u1 at *
            generalize byteAt zs (pos a b c 4 x y + 2) = u2 at *
            generalize byteAt zs (pos a b c 4 x y + 3) = u3 at *
            have HU := HU0
            have HRN : Hid (∀ W vs, Grows wb W → RdS W vs [(4, 0, 0, (0, 0, 0, 0), (a', b', c', d')), (4, 0, 0, (0, 0, 0, 0), (a'', b'', c'', d'')), (2, x, y, (0, 0, 0, 0), (0, 0, 0, 0)), (3, A2, B2, (0, 0, 0, 0), (0, 0, 0, 0))] → Calls Try.prog 14 #[box4 a b c d, .slice A zs.length cc, vs] W fun e w' => ∃ v, e = .returned v ∧ Grows W w' ∧ TupRun a b c d (sd a c 4) [[u0, u1, u2, u3]] (some [0]) F W v w') := by
              intro W vs hW hs
              refine (implRun a b c d _ zs vs _ W HF.out (HR.out.grows (HGW.out.step (HG.out.step hW))) hs).mono ?_
              rintro e w' ⟨vc, vo, vp, offs, rfl, hC, hO, hP, hoo, _⟩
              rw [script_part2v (k := 4) (f := byteAt zs) (z := (0, 0, 0, 0)) (by omega) HE1.out HE2.out HM'.out HM2.out HI.out] at hC hP hoo
              rw [HU.out] at hC
              rw [← HFF.out] at hP
              have ho0 := hoo rfl
              subst ho0
              exact ⟨_, rfl, hC.2, vc, vo, vp, rfl, hC, hP, fun l hl => by simp only [Option.some.injEq] at hl; subst hl; exact hO⟩
            have HSW : Hid (∀ s ∈ ([(4, 0, 0, (0, 0, 0, 0), (a', b', c', d')), (4, 0, 0, (0, 0, 0, 0), (a'', b'', c'', d'')), (2, x, y, (0, 0, 0, 0), (0, 0, 0, 0)), (3, A2, B2, (0, 0, 0, 0), (0, 0, 0, 0))] : List Stp), ∀ m ∈ nums s, -9223372036854775808 ≤ m ∧ m ≤ 9223372036854775807) := by intro s hs m hm; simp only [List.mem_cons, List.not_mem_nil, or_false] at hs; unfold I64 at *; rcases hs with rfl | rfl | rfl | rfl <;> simp only [nums, List.mem_cons, List.not_mem_nil, or_false] at hm <;> omega
            have HSW2 : Hid (∀ s ∈ ([(4, 0, 0, (0, 0, 0, 0), (A2, B2, G2, D2)), (2, x, y, (0, 0, 0, 0), (0, 0, 0, 0)), (3, A2, B2, (0, 0, 0, 0), (0, 0, 0, 0))] : List Stp), ∀ m ∈ nums s, -9223372036854775808 ≤ m ∧ m ≤ 9223372036854775807) := by intro s hs m hm; simp only [List.mem_cons, List.not_mem_nil, or_false] at hs; unfold I64 at *; rcases hs with rfl | rfl | rfl <;> simp only [nums, List.mem_cons, List.not_mem_nil, or_false] at hm <;> omega
            clear hwf
            go_upto_region 9 with fail
            apply wp_region_lex_lit 19 (by kernel_rfl) (by kernel_rfl)
            iterate 10
              apply lex_pin
              · intro wq hgq hdq Kq hKq
                obtain ⟨p0, p1, p2, p3⟩ := HB.out.grows ((Grows.rfl' _).drew'.step hgq)
                obtain ⟨n0', n1', n2', n3'⟩ := HN.out.grows ((Grows.rfl' _).drew'.step hgq)
                obtain ⟨m0', m1', m2', m3'⟩ := HT.out.grows ((Grows.rfl' _).drew'.step hgq)
                obtain ⟨x0, x1, x2, x3, x4, x5, x6, x7, x8, x9, x10⟩ := (HS1.out.grows ((Grows.rfl' _).drew'.step hgq)).cells
                obtain ⟨y0, y1, y2, y3, y4, y5, y6, y7, y8, y9, y10⟩ := (HS2.out.grows ((Grows.rfl' _).drew'.step hgq)).cells
                go_wp2_with ((go_at_call 10; refine (asRect_any _ _ _ _ _).mono ?_); rintro e wq' ⟨rfl, hgq'⟩)
                first | exact hKq _ (Grows.rfl' _) | exact hKq _ hgq'
              · kernel_rfl
            apply lex_any (fun v wx => RdS wx v [(4, 0, 0, (0, 0, 0, 0), (a', b', c', d')), (4, 0, 0, (0, 0, 0, 0), (a'', b'', c'', d'')), (2, x, y, (0, 0, 0, 0), (0, 0, 0, 0)), (3, A2, B2, (0, 0, 0, 0), (0, 0, 0, 0))]) (fun v x y hg h => h.grows hg)
            · intro wq hgq hdq Kq hKq
              go_wp2
              exact hKq _ _ ((Grows.rfl' _).alloc' _) (RdS.lit (ss := [(4, 0, 0, (0, 0, 0, 0), (a', b', c', d')), (4, 0, 0, (0, 0, 0, 0), (a'', b'', c'', d'')), (2, x, y, (0, 0, 0, 0), (0, 0, 0, 0)), (3, A2, B2, (0, 0, 0, 0), (0, 0, 0, 0))]) (by simp) HSW.out)
            intro vst
            simp only [Act.put, List.setIfInBounds_toArray, List.set_cons_succ, List.set_cons_zero]
            apply lex_any (TupRun a b c d (sd a c 4) ([[u0, u1, u2, u3]]) (some [0]) (F) wb) TupRun.keep
            · intro wq hgq hdq Kq hKq
              have hst := hdq 10 _ rfl (by kernel_rfl)
              go_wp2_with fail
              refine (HRN.out _ _ ((Grows.rfl' _).drew'.step hgq) hst).mono ?_
              rintro e wq' ⟨v', rfl, hgq', hp⟩
              have HTP := Lib.hid (And.intro hgq' (hp.base ((Grows.rfl' wb).drew'.step hgq)))
              clear hgq' hp hst
              go_wp2_with fail
              exact hKq _ _ HTP.out.1 HTP.out.2
            intro vt
            simp only [Act.put, List.setIfInBounds_toArray, List.set_cons_succ, List.set_cons_zero]
            apply lex_any (TupRun a b c d (sd a c 4) ([[u0, u1, u2, u3]]) (some [0]) (F) wb) TupRun.keep
            · intro wq hgq hdq Kq hKq
              have hst := Lib.hid (hdq 11 _ rfl (by kernel_rfl))
              go_wp2
              exact hKq _ _ (Grows.rfl' _) hst.out
            intro vm
            simp only [Act.put, List.setIfInBounds_toArray, List.set_cons_succ, List.set_cons_zero]
            apply lex_any (fun v w => OwnC wb w v ([[u0, u1, u2, u3]])) (fun v w w' hg h => h.later hg)
            · intro wq hgq hdq Kq hKq
              obtain ⟨vc, vo, vp, rfl, hC, hP, hO⟩ := hdq 12 _ rfl (by kernel_rfl)
              have HH := Lib.hid hC
              clear hC hP hO
              go_wp2
              exact hKq _ _ (Grows.rfl' _) HH.out
            intro vc0
            simp only [Act.put, List.setIfInBounds_toArray, List.set_cons_succ, List.set_cons_zero]
            apply lex_any (fun v w => OffIs (some [0]) wb w v) (fun v w w' hg h => h.later hg)
            · intro wq hgq hdq Kq hKq
              obtain ⟨vc, vo, vp, rfl, hC, hP, hO⟩ := hdq 12 _ rfl (by kernel_rfl)
              have HH := Lib.hid hO
              clear hC hP hO
              go_wp2
              exact hKq _ _ (Grows.rfl' _) HH.out
            intro vo0
            simp only [Act.put, List.setIfInBounds_toArray, List.set_cons_succ, List.set_cons_zero]
            apply lex_any (OwnPic a b c d (sd a c 4) (F) wb) OwnPic.keep
            · intro wq hgq hdq Kq hKq
              obtain ⟨vc, vo, vp, rfl, hC, hP, hO⟩ := hdq 12 _ rfl (by kernel_rfl)
              have HH := Lib.hid hP
              clear hC hP hO
              go_wp2
              exact hKq _ _ (Grows.rfl' _) ⟨vp, rfl, HH.out⟩
            intro vp0
            simp only [Act.put, List.setIfInBounds_toArray, List.set_cons_succ, List.set_cons_zero]
            apply lex_any (ZeroBox wb) ZeroBox.keep
            · intro wq hgq hdq Kq hKq
              have hsz4 : wb.heap.size ≤ wq.heap.size := hgq.size
              go_wp2
              exact hKq _ _ ((Grows.rfl' _).alloc' _) ⟨wq.heap.size, rfl, hsz4, heap_alloc_new _ _⟩
            intro vx0
            simp only [Act.put, List.setIfInBounds_toArray, List.set_cons_succ, List.set_cons_zero]
            apply lex_any (fun v w => OwnC wb w v ([[u0, u1, u2, u3]])) (fun v w w' hg h => h.later hg)
            · intro wq hgq hdq Kq hKq
              have HH := Lib.hid (hdq 13 _ rfl (by kernel_rfl))
              clear hdq
              go_wp2
              exact hKq _ _ (Grows.rfl' _) HH.out
            intro vc1
            simp only [Act.put, List.setIfInBounds_toArray, List.set_cons_succ, List.set_cons_zero]
            apply lex_any (fun v w => OffIs (some [0]) wb w v) (fun v w w' hg h => h.later hg)
            · intro wq hgq hdq Kq hKq
              have HH := Lib.hid (hdq 14 _ rfl (by kernel_rfl))
              clear hdq
              go_wp2
              exact hKq _ _ (Grows.rfl' _) HH.out
            intro vo1
            simp only [Act.put, List.setIfInBounds_toArray, List.set_cons_succ, List.set_cons_zero]
            refine lex_end ?_
            intro w7 hg7 hd7
            obtain ⟨vp, rfl, ho⟩ := hd7 15 _ rfl
            obtain ⟨pbx2, rfl, hpb2, hbox⟩ := hd7 16 _ rfl
            have hoc := hd7 17 _ rfl
            have hof := hd7 18 _ rfl
            clear hd7
            obtain ⟨C2, k2, rfl⟩ := ho.form
            obtain ⟨C3, k3, rfl⟩ := hoc.form
            obtain ⟨e0, e1, e2, e3, e4, e5⟩ := block_cells hbox
            have z5 := block_frozen hbox
            have HX2 : Hid (PicAt (stored w7 pbx2 (.int .i64 a) (.int .i64 b) (.int .i64 c) (.int .i64 d) (.int .i64 (sd a c 4)) (.slice C2 (F).length k2)) pbx2 a b c d (sd a c 4) (.slice C2 (F).length k2)) := stored_block hbox (.int .i64 a) (.int .i64 b) (.int .i64 c) (.int .i64 d) (.int .i64 (sd a c 4)) (.slice C2 (F).length k2)
            have HO8 := Lib.hid (stored_own ho hbox hpb2 (.int .i64 a) (.int .i64 b) (.int .i64 c) (.int .i64 d) (.int .i64 (sd a c 4)) (.slice C2 (F).length k2))
            have HC8 := Lib.hid (stored_ownC hoc hbox hpb2 (.int .i64 a) (.int .i64 b) (.int .i64 c) (.int .i64 d) (.int .i64 (sd a c 4)) (.slice C2 (F).length k2))
            have HF8 := Lib.hid (stored_off hof hbox hpb2 (.int .i64 a) (.int .i64 b) (.int .i64 c) (.int .i64 d) (.int .i64 (sd a c 4)) (.slice C2 (F).length k2))
            have HF8 := Lib.hid (stored_off hof hbox hpb2 (.int .i64 a) (.int .i64 b) (.int .i64 c) (.int .i64 d) (.int .i64 (sd a c 4)) (.slice C2 (F).length k2))
            have HF8 := Lib.hid (stored_off hof hbox hpb2 (.int .i64 a) (.int .i64 b) (.int .i64 c) (.int .i64 d) (.int .i64 (sd a c 4)) (.slice C2 (F).length k2))
            have HF8 := Lib.hid (stored_off hof hbox hpb2 (.int .i64 a) (.int .i64 b) (.int .i64 c) (.int .i64 d) (.int .i64 (sd a c 4)) (.slice C2 (F).length k2))
            have HF8 := Lib.hid (stored_off hof hbox hpb2 (.int .i64 a) (.int .i64 b) (.int .i64 c) (.int .i64 d) (.int .i64 (sd a c 4)) (.slice C2 (F).length k2))
            have HF8 := Lib.hid (stored_off hof hbox hpb2 (.int .i64 a) (.int .i64 b) (.int .i64 c) (.int .i64 d) (.int .i64 (sd a c 4)) (.slice C2 (F).length k2))
            have HF8 := Lib.hid (stored_off hof hbox hpb2 (.int .i64 a) (.int .i64 b) (.int .i64 c) (.int .i64 d) (.int .i64 (sd a c 4)) (.slice C2 (F).length k2))
            have HF8 := Lib.hid (stored_off hof hbox hpb2 (.int .i64 a) (.int .i64 b) (.int .i64 c) (.int .i64 d) (.int .i64 (sd a c 4)) (.slice C2 (F).length k2))
            have HG8 : Hid (Grows wb (stored w7 pbx2 (.int .i64 a) (.int .i64 b) (.int .i64 c) (.int .i64 d) (.int .i64 (sd a c 4)) (.slice C2 (F).length k2))) := stored_grows ((Grows.rfl' wb).drew'.step hg7) hpb2 _ _ _ _ _ _
            have HCH : Hid (((((((w7.setCell ⟨pbx2, 0, none⟩ (.int .i64 a)).setCell ⟨pbx2, 1, none⟩ (.int .i64 b)).setCell ⟨pbx2, 2, none⟩ (.int .i64 c)).setCell ⟨pbx2, 3, none⟩ (.int .i64 d)).setCell ⟨pbx2, 4, none⟩ (.int .i64 (sd a c 4))).setCell ⟨pbx2, 5, none⟩ (.slice C2 (F).length k2)) = stored w7 pbx2 (.int .i64 a) (.int .i64 b) (.int .i64 c) (.int .i64 d) (.int .i64 (sd a c 4)) (.slice C2 (F).length k2)) := rfl
            clear ho hoc hof hbox hg7
            go_upto_region 10 with fail
            rw [HCH.out]
            clear HCH z5 e0 e1 e2 e3 e4 e5
            generalize stored w7 pbx2 (.int .i64 a) (.int .i64 b) (.int .i64 c) (.int .i64 d) (.int .i64 (sd a c 4)) (.slice C2 (F).length k2) = w8 at *
            obtain ⟨g1, j1, hv1, hcl1⟩ := HC8.out.one
            simp only [List.length_cons, List.length_nil, Nat.zero_add, Value.slice.injEq, true_and] at hv1
            obtain ⟨rfl, rfl⟩ := hv1
            have HCC1 := Lib.hid hcl1
            have HOF1 : Hid (RdI w8 vo1 [0]) := (HF8.out [0] rfl).rd (by simp) (by simp)
            replace HB := Lib.hid (HB.out.grows HG8.out)
            replace KA := Lib.hid (KA.out.grows HG8.out)
            replace HS1 := Lib.hid (HS1.out.grows HG8.out)
            replace HS2 := Lib.hid (HS2.out.grows HG8.out)
            replace HG := Lib.hid (HG.out.step HG8.out)
            replace HRD := Lib.hid (fun W hW => HRD.out W (HG8.out.step hW))
            clear hcl1 HC8 HF8 HO8 HG8 HRN HN HT HX2 hpb2
            obtain ⟨p0, p1, p2, p3⟩ := HB.out
            obtain ⟨r0, r1, r2, r3⟩ := KA.out.cells
            obtain ⟨x0, x1, x2, x3, x4, x5, x6, x7, x8, x9, x10⟩ := HS1.out.cells
            obtain ⟨y0, y1, y2, y3, y4, y5, y6, y7, y8, y9, y10⟩ := HS2.out.cells
            go_wp2_with fail
            refine (implRun a b c d _ zs _ ([(4, 0, 0, (0, 0, 0, 0), (A2, B2, G2, D2)), (2, x, y, (0, 0, 0, 0), (0, 0, 0, 0)), (3, A2, B2, (0, 0, 0, 0), (0, 0, 0, 0))]) _ HF.out (HR.out.grows ((HGW.out.step HG.out).alloc' _)) (RdS.lit (by simp) HSW2.out)).mono ?_
            rintro e w9 ⟨vc, vo, vp, offs, rfl, hC, hO, hP, hoo, _⟩
            have eS := script_part1 (k := 4) (f := byteAt zs) (z := (0, 0, 0, 0)) (by omega) HSB2.out HI.out
            rw [eS] at hC hP hoo
            simp only at hC hP hoo
            clear eS
            clear p0 p1 p2 p3 r0 r1 r2 r3 x0 x1 x2 x3 x4 x5 x6 x7 x8 x9 x10 y0 y1 y2 y3 y4 y5 y6 y7 y8 y9 y10
            rw [HU.out] at hC
            rw [← HFF.out] at hP
            obtain ⟨C2, k2, rfl⟩ := hP.form
            obtain ⟨g2, j2, rfl, hcl⟩ := hC.one
            have hgw : Grows w8 w9 := ((Grows.rfl' _).alloc' _).step hC.2
            have HCC2 := Lib.hid hcl
            have HPR2 : Hid (RdI w9 (.slice C2 F.length k2) F) := hP.rd (by have := HFL.out.1; omega) HFL.out.2
            have ho0 := hoo trivial
            subst ho0
            have HOF2 : Hid (RdI w9 vo [0]) := hO.rd (by simp) (by simp)
            clear hC hO hP hoo hcl
            go_upto_region 11 with fail
            have hga : Grows w9 (w9.alloc (.cells #[.int .i64 a, .int .i64 b, .int .i64 c, .int .i64 d, .int .i64 (sd a c 4), .slice C2 F.length k2] 34)) := (Grows.rfl' _).alloc' _
            have HX2 : Hid (PicAt (w9.alloc (.cells #[.int .i64 a, .int .i64 b, .int .i64 c, .int .i64 d, .int .i64 (sd a c 4), .slice C2 F.length k2] 34)) w9.heap.size a b c d (sd a c 4) (.slice C2 F.length k2)) := heap_alloc_new _ _
            replace HPR2 := Lib.hid (HPR2.out.grows hga)
            replace HCC2 := Lib.hid (fun j m hj => hga.cell_some (HCC2.out j m hj))
            replace HOF2 := Lib.hid (HOF2.out.grows hga)
            replace hgw := hgw.step hga
            replace HB := Lib.hid (HB.out.grows hgw)
            replace HG := Lib.hid (HG.out.step hgw)
            generalize w9.alloc (.cells #[.int .i64 a, .int .i64 b, .int .i64 c, .int .i64 d, .int .i64 (sd a c 4), .slice C2 F.length k2] 34) = w10 at *
            generalize w9.heap.size = pb2 at *
            replace HOF1 := Lib.hid (HOF1.out.grows hgw)
            replace HCC1 := Lib.hid (fun j m hj => hgw.cell_some (HCC1.out j m hj))
            replace HRD := Lib.hid (fun W hW => HRD.out W (hgw.step hW))
            clear hgw hga
            apply wp_region_lex_lit 39 (by kernel_rfl) (by kernel_rfl)
            iterate 30
              apply lex_pin
              · intro wq hgq hdq Kq hKq
                obtain ⟨p0, p1, p2, p3⟩ := HB.out.grows ((Grows.rfl' _).drew'.step hgq)
                have c10 := hgq.cell_some (HCC1.out 0 _ rfl)
                have c11 := hgq.cell_some (HCC1.out 1 _ rfl)
                have c12 := hgq.cell_some (HCC1.out 2 _ rfl)
                have c13 := hgq.cell_some (HCC1.out 3 _ rfl)
                have c20 := hgq.cell_some (HCC2.out 0 _ rfl)
                have c21 := hgq.cell_some (HCC2.out 1 _ rfl)
                have c22 := hgq.cell_some (HCC2.out 2 _ rfl)
                have c23 := hgq.cell_some (HCC2.out 3 _ rfl)
                go_wp2_with ((go_at_call 24; refine (HRD.out _ ((Grows.rfl' _).drew'.step hgq)).mono ?_); rintro e wq' ⟨rfl, hgq'⟩)
                first | exact hKq _ (Grows.rfl' _) | exact hKq _ hgq'
              · kernel_rfl
            apply lex_any (fun v wx => RdI wx v [0]) (fun v x y hg h => h.grows hg)
            · intro wq hgq hdq Kq hKq
              clear hdq
              go_wp2
              exact hKq _ _ ((Grows.rfl' _).alloc' _) (lit0 _ _)
            intro vz
            simp only [Act.put, List.setIfInBounds_toArray, List.set_cons_succ, List.set_cons_zero]
            apply lex_pinv (.bool true)
            · intro wq hgq hdq Kq hKq
              have H2 := Lib.hid (hdq 30 _ rfl (by kernel_rfl))
              clear hdq
              go_wp2_with fail
              refine (sameInts_yes _ _ [0] _ (HOF1.out.grows ((Grows.rfl' _).drew'.step hgq)) H2.out).mono ?_
              rintro e wq' ⟨rfl, hgq'⟩
              go_wp2_with fail
              exact hKq _ hgq'
            simp only [Act.put, List.setIfInBounds_toArray, List.set_cons_succ, List.set_cons_zero]
            iterate 3
              apply lex_pinv
              · intro wq hgq hdq Kq hKq
                go_wp2
                exact hKq _ (Grows.rfl' _)
              simp only [Act.put, List.setIfInBounds_toArray, List.set_cons_succ, List.set_cons_zero]
            apply lex_any (fun v wx => RdI wx v [0]) (fun v x y hg h => h.grows hg)
            · intro wq hgq hdq Kq hKq
              clear hdq
              go_wp2
              exact hKq _ _ ((Grows.rfl' _).alloc' _) (lit0 _ _)
            intro vz
            simp only [Act.put, List.setIfInBounds_toArray, List.set_cons_succ, List.set_cons_zero]
            apply lex_pinv (.bool true)
            · intro wq hgq hdq Kq hKq
              have H2 := Lib.hid (hdq 35 _ rfl (by kernel_rfl))
              clear hdq
              go_wp2_with fail
              refine (sameInts_yes _ _ [0] _ (HOF2.out.grows ((Grows.rfl' _).drew'.step hgq)) H2.out).mono ?_
              rintro e wq' ⟨rfl, hgq'⟩
              go_wp2_with fail
              exact hKq _ hgq'
            simp only [Act.put, List.setIfInBounds_toArray, List.set_cons_succ, List.set_cons_zero]
            iterate 2
              apply lex_pinv
              · intro wq hgq hdq Kq hKq
                go_wp2
                exact hKq _ (Grows.rfl' _)
              simp only [Act.put, List.setIfInBounds_toArray, List.set_cons_succ, List.set_cons_zero]
            refine lex_end ?_
            intro w12 hg12 _
            go_wp2
            go_ret
            exact ⟨rfl, HGW.out.step (HG.out.drew'.step hg12)⟩
        · have HI := Lib.hid hi
          clear hi
          go_wp2_with fail
          refine (has_no _ _ _ _ _ _ _ HI.out).mono ?_
          rintro e w6 ⟨rfl, hg6⟩
          go_wp2_with fail
          go_ret
          exact ⟨rfl, HGW.out.step (HG.out.step hg6)⟩
      · have HM2 := Lib.hid hm2
        clear hm2
        apply wp_region_flo_lit 9 (by kernel_rfl) (by kernel_rfl)
        iterate 7
          apply flo_pin
          · intro wq hgq hdq Kq hKq
            obtain ⟨p0, p1, p2, p3⟩ := (KS.out.grows ((Grows.rfl' _).drew'.step hgq)).cells
            obtain ⟨n0', n1', n2', n3'⟩ := HT.out.grows ((Grows.rfl' _).drew'.step hgq)
            go_wp2_with ((first | (go_at_call 10; refine (asRect_any _ _ _ _ _).mono ?_) | (go_at_call 19; refine (common_no _ _ _ _ _ _ _ _ _ HM2.out).mono ?_)); rintro e wq' ⟨rfl, hgq'⟩)
            first | exact hKq _ (Grows.rfl' _) | exact hKq _ hgq'
          · kernel_rfl
          intro _
        apply flo_any (RectBox w4) RectBox.keep
        · intro wq hgq hdq Kq hKq
          have hsz4 : w4.heap.size ≤ wq.heap.size := hgq.size
          go_wp2
          exact hKq _ _ ((Grows.rfl' _).alloc' _) ⟨wq.heap.size, rfl, hsz4, _, _, _, _, heap_alloc_new _ _⟩
        · kernel_rfl
        intro vx
        simp only [Act.put, List.setIfInBounds_toArray, List.set_cons_succ, List.set_cons_zero]
        apply flo_put 7 vx (RectIn w4 (0) (0) (0) (0)) RectIn.keep rfl rfl (by kernel_rfl)
        · intro wq hgq hdq Kq hKq
          obtain ⟨rb, rfl, hrb, r1, r2, r3, r4, kb⟩ := hdq 7 _ rfl (by kernel_rfl)
          clear hdq
          have KS := Lib.hid ((((kb.set0 (0)).set1 (0)).set2 (0)).set3 (0))
          have HGS := Lib.hid ((((hgq.set' (p := ⟨rb, 0, none⟩) hrb (.int .i64 (0))).set' (p := ⟨rb, 1, none⟩) hrb (.int .i64 (0))).set' (p := ⟨rb, 2, none⟩) hrb (.int .i64 (0))).set' (p := ⟨rb, 3, none⟩) hrb (.int .i64 (0)))
          obtain ⟨k0, k1, k2, k3⟩ := kb.cells
          have kf := kb.frozen
          clear kb
          go_wp2
          refine hKq _ HGS.out ?_ ⟨rb, rfl, hrb, KS.out⟩
          repeat' first | exact Keeps.nil | refine Keeps.idle ?_ | refine Keeps.snoc ?_ ?_
          intro h
          exact ⟨rb, rfl, hrb, _, _, _, _, KS.out⟩
        · kernel_rfl
        intro _
        refine flo_end ?_
        intro w5 hg5 hd5
        obtain ⟨ra, rfl, hra, ka⟩ := hd5 8 _ rfl
        clear hd5
        have HGA : Hid (Grows w4 w5) := (Grows.rfl' _).drew'.step hg5
        have KA := Lib.hid ka
        clear hg5 ka
        go_upto_region 6 with fail
        replace HB := Lib.hid (HB.out.grows HGA.out)
        replace HN := Lib.hid (HN.out.grows HGA.out)
        replace HT := Lib.hid (HT.out.grows HGA.out)
        replace HG := Lib.hid (HG.out.step HGA.out)
        go_wp2_with fail
        go_ret
        exact ⟨rfl, HGW.out.step HG.out⟩
    · have HF := Lib.hid hf
      clear hf
      go_wp2_with fail
      refine (fine_no _ _ _ _ _ HF.out ha hb).mono ?_
      rintro e w5 ⟨rfl, hg5⟩
      go_wp2_with fail
      go_ret
      exact ⟨rfl, HGW.out.step (HG.out.step hg5)⟩
  · have HM := Lib.hid hm
    clear hm
    apply wp_region_flo_lit 9 (by kernel_rfl) (by kernel_rfl)
    iterate 7
      apply flo_pin
      · intro wq hgq hdq Kq hKq
        obtain ⟨p0, p1, p2, p3⟩ := HB.out.grows ((Grows.rfl' _).drew'.step hgq)
        obtain ⟨n0', n1', n2', n3'⟩ := HN.out.grows ((Grows.rfl' _).drew'.step hgq)
        go_wp2_with ((first | (go_at_call 10; refine (asRect_any _ _ _ _ _).mono ?_) | (go_at_call 19; refine (common_no _ _ _ _ _ _ _ _ _ HM.out).mono ?_)); rintro e wq' ⟨rfl, hgq'⟩)
        first | exact hKq _ (Grows.rfl' _) | exact hKq _ hgq'
      · kernel_rfl
      intro _
    apply flo_any (RectBox w2) RectBox.keep
    · intro wq hgq hdq Kq hKq
      have hsz4 : w2.heap.size ≤ wq.heap.size := hgq.size
      go_wp2
      exact hKq _ _ ((Grows.rfl' _).alloc' _) ⟨wq.heap.size, rfl, hsz4, _, _, _, _, heap_alloc_new _ _⟩
    · kernel_rfl
    intro vx
    simp only [Act.put, List.setIfInBounds_toArray, List.set_cons_succ, List.set_cons_zero]
    apply flo_put 7 vx (RectIn w2 (0) (0) (0) (0)) RectIn.keep rfl rfl (by kernel_rfl)
    · intro wq hgq hdq Kq hKq
      obtain ⟨rb, rfl, hrb, r1, r2, r3, r4, kb⟩ := hdq 7 _ rfl (by kernel_rfl)
      clear hdq
      have KS := Lib.hid ((((kb.set0 (0)).set1 (0)).set2 (0)).set3 (0))
      have HGS := Lib.hid ((((hgq.set' (p := ⟨rb, 0, none⟩) hrb (.int .i64 (0))).set' (p := ⟨rb, 1, none⟩) hrb (.int .i64 (0))).set' (p := ⟨rb, 2, none⟩) hrb (.int .i64 (0))).set' (p := ⟨rb, 3, none⟩) hrb (.int .i64 (0)))
      obtain ⟨k0, k1, k2, k3⟩ := kb.cells
      have kf := kb.frozen
      clear kb
      go_wp2
      refine hKq _ HGS.out ?_ ⟨rb, rfl, hrb, KS.out⟩
      repeat' first | exact Keeps.nil | refine Keeps.idle ?_ | refine Keeps.snoc ?_ ?_
      intro h
      exact ⟨rb, rfl, hrb, _, _, _, _, KS.out⟩
    · kernel_rfl
    intro _
    refine flo_end ?_
    intro w3 hg3 hd3
    obtain ⟨rb, rfl, hrb, kb⟩ := hd3 8 _ rfl
    clear hd3
    have HGS : Hid (Grows w2 w3) := (Grows.rfl' _).drew'.step hg3
    have KS := Lib.hid kb
    clear hg3 kb
    go_upto_region 3 with fail
    replace HB := Lib.hid (HB.out.grows HGS.out)
    replace HN := Lib.hid (HN.out.grows HGS.out)
    replace HR0 := Lib.hid (HR0.out.grows HGS.out)
    replace HG := Lib.hid (HG.out.step HGS.out)
    obtain ⟨r0, r1, r2, r3⟩ := HR0.out
    by_cases hf : Fine a b c d
    · have HF := Lib.hid hf
      clear hf
      go_wp2_with fail
      refine (fine_yes _ _ _ _ _ HF.out).mono ?_
      rintro e w5 ⟨rfl, hg5⟩
      go_wp2_with fail
      go_ret
      exact ⟨rfl, HGW.out.step (HG.out.step hg5)⟩
    · have HF := Lib.hid hf
      clear hf
      go_wp2_with fail
      refine (fine_no _ _ _ _ _ HF.out ha hb).mono ?_
      rintro e w5 ⟨rfl, hg5⟩
      go_wp2_with fail
      go_ret
      exact ⟨rfl, HGW.out.step (HG.out.step hg5)⟩

set_option linter.unusedVariables false
set_option maxRecDepth 100000 in
theorem lifted (os : Os) (started : os.Started) (H : Type) (enc : TypeId × Value → H) :
    ReturnsInHanded {} Try.checked os 6 .any (Rows.fnRGBAPartOfPartSpec.pre6 enc Try.prog Try.f6 Rows.fnRGBAPartOfPartRow.domain false) (Rows.fnRGBAPartOfPartSpec.post enc Try.prog Try.f6 false true false false) := by
  refine returnsInHanded_of_change_sized (C := Try.checked) own started (by kernel_rfl) Try.func6
    (ChangeSpec.witness6 (enc := enc) (C := Try.checked) false ⟨#[], #[.agg #[.int .i64 0, .int .i64 0, .int .i64 0, .int .i64 0], .slice none 0 0, .agg #[.int .i64 0, .int .i64 0, .int .i64 0, .int .i64 0], .agg #[.int .i64 0, .int .i64 0, .int .i64 0, .int .i64 0], .int .i64 0, .int .i64 0], []⟩ 8 (by kernel_rfl) (by kernel_rfl) (by kernel_rfl) (by kernel_rfl)) ?_
  intro W base args ds gs before hval0 hW hcnd hsz0 _
  have hval : ∀ (j : Nat) t v, Try.f6.params[j]? = some t → args[j]? = some v → Value.okWide Try.prog W .any base t v := hval0
  have hsz : (DataW.weightsEach Try.prog (Try.f6.params.toList ++ Rows.fnRGBAPartOfPartSpec.plain.varTypes Try.prog) (ds ++ gs)).all (· ≤ reachBytes) = true := hsz0
  clear hsz0
  have hW' := hW
  obtain ⟨p, q, hA0, hV, rfl, hfz, hnd⟩ := hW
  have hA : DataW.TrodAll enc Try.prog W 0 (fun _ => true) true Try.f6.params.toList args.toList ds p := hA0
  rw [Try.params6] at hA hval hsz
  obtain ⟨v0, vs0, d0, ds0, p0, q0, hargs, rfl, rfl, h0, r0⟩ := trodAll_cons hA
  obtain ⟨v1, vs1, d1, ds1, p1, q1, rfl, rfl, rfl, h1, r1⟩ := trodAll_cons r0
  obtain ⟨v2, vs2, d2, ds2, p2, q2, rfl, rfl, rfl, h2, r2⟩ := trodAll_cons r1
  obtain ⟨v3, vs3, d3, ds3, p3, q3, rfl, rfl, rfl, h3, r3⟩ := trodAll_cons r2
  obtain ⟨v4, vs4, d4, ds4, p4, q4, rfl, rfl, rfl, h4, r4⟩ := trodAll_cons r3
  obtain ⟨v5, vs5, d5, ds5, p5, q5, rfl, rfl, rfl, h5, r5⟩ := trodAll_cons r4
  obtain ⟨rfl, rfl, rfl⟩ := trodAll_nil r5
  obtain rfl : args = #[v0, v1, v2, v3, v4, v5] := by cases args; simp_all
  obtain ⟨rfl, rfl⟩ := trodVars_none hV
  have k0 := h0
  have lt0 : ∀ x ∈ p0, x.block < W.heap.size := by obtain ⟨m, hm⟩ := k0; exact DataW.trod_lt m _ _ _ hm
  have k1 := h1
  have lt1 : ∀ x ∈ p1, x.block < W.heap.size := by obtain ⟨m, hm⟩ := k1; exact DataW.trod_lt m _ _ _ hm
  have k2 := h2
  have lt2 : ∀ x ∈ p2, x.block < W.heap.size := by obtain ⟨m, hm⟩ := k2; exact DataW.trod_lt m _ _ _ hm
  have k3 := h3
  have lt3 : ∀ x ∈ p3, x.block < W.heap.size := by obtain ⟨m, hm⟩ := k3; exact DataW.trod_lt m _ _ _ hm
  have k4 := h4
  have lt4 : ∀ x ∈ p4, x.block < W.heap.size := by obtain ⟨m, hm⟩ := k4; exact DataW.trod_lt m _ _ _ hm
  have k5 := h5
  have lt5 : ∀ x ∈ p5, x.block < W.heap.size := by obtain ⟨m, hm⟩ := k5; exact DataW.trod_lt m _ _ _ hm
  obtain ⟨s0a, s0b, s0c, s0d, rfl, ⟨b0a, b0b, b0c, b0d⟩⟩ := open_four Try.underlying23 (by kernel_rfl) cells23 (hval 0 23 v0 rfl rfl) h0
  obtain ⟨z1, hz1⟩ := open_list (hval 1 24 v1 rfl rfl) h1 (fun el sp hd => by subst hd; exact sized_slice hsz (j := 1) (t := 24) (e := 3) rfl rfl Try.underlying24)
  obtain ⟨s2a, s2b, s2c, s2d, rfl, ⟨b2a, b2b, b2c, b2d⟩⟩ := open_four Try.underlying23 (by kernel_rfl) cells23 (hval 2 23 v2 rfl rfl) h2
  obtain ⟨s3a, s3b, s3c, s3d, rfl, ⟨b3a, b3b, b3c, b3d⟩⟩ := open_four Try.underlying23 (by kernel_rfl) cells23 (hval 3 23 v3 rfl rfl) h3
  obtain ⟨x4, rfl, he4, _, w4⟩ := open_int Try.underlying3 (hval 4 3 v4 rfl rfl) h4
  obtain ⟨x5, rfl, he5, _, w5⟩ := open_int Try.underlying3 (hval 5 3 v5 rfl rfl) h5
  refine (walk s0a s0b s0c s0d v1 z1 s2a s2b s2c s2d s3a s3b s3c s3d x4 x5 W b0a b0b b0c b0d hz1 b2a b2b b2c b2d b3a b3b b3c b3d (bounds_i64 w4) (bounds_i64 w5)).mono fun e W' ⟨he, bel⟩ => ?_
  subst he
  exact ⟨_, rfl, _, _, _, [], _, [], hW', trodAll_mk1 (shut_bool Try.underlying4 _), (trodAll_cons_mk (Below.trod laidOut (by kernel_rfl) (of_decide_eq_true (by kernel_rfl)) k0 bel lt0) (trodAll_cons_mk (Below.trod laidOut (by kernel_rfl) (of_decide_eq_true (by kernel_rfl)) k1 bel lt1) (trodAll_cons_mk (Below.trod laidOut (by kernel_rfl) (of_decide_eq_true (by kernel_rfl)) k2 bel lt2) (trodAll_cons_mk (Below.trod laidOut (by kernel_rfl) (of_decide_eq_true (by kernel_rfl)) k3 bel lt3) (trodAll_cons_mk (Below.trod laidOut (by kernel_rfl) (of_decide_eq_true (by kernel_rfl)) k4 bel lt4) (trodAll_cons_mk (Below.trod laidOut (by kernel_rfl) (of_decide_eq_true (by kernel_rfl)) k5 bel lt5) trodAll_mk0)))))), rfl, bel.frame _, fun h => by cases h⟩

theorem proved : Rows.FnRGBAPartOfPartSaid :=
  OpenClaim.holds_of_wide 6 Try.f6 rfl rfl rfl rfl rfl rfl rfl ⟨rfl, rfl, rfl, rfl, rfl⟩ rfl rfl rfl rfl rfl (by kernel_rfl) Try.func6 (by kernel_rfl)
    (of_decide_eq_true (by kernel_rfl)) (by unfold Func.isWrapper; first | (rw [if_pos (by decide +kernel)]; kernel_rfl) | (rw [if_neg (by decide +kernel)]; exact ⟨rfl, rfl⟩))
    (fun os started H enc _ => lifted os started H enc)
#print axioms proved
end Go.Proofs.Ytnbplionaojabaa.lawRGBAPartOfPart

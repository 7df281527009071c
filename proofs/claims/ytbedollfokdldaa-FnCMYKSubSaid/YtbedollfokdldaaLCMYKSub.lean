/-
  FnCMYKSub returns true for every input, and each argument reads afterwards as before. Conditions: none beyond the row's own.
-/
import Derived.Test.YtbedollfokdldaaSub
import Derived.Test.YtbedollfokdldaaAt
import Derived.Test.YtbedollfokdldaaRead
import Derived.Test.YtbedollfokdldaaBoxPic
import Derived.Test.YtbedollfokdldaaPartOf
import Derived.Test.YtbedollfokdldaaLift
import Derived.Deep.Cut
namespace Go.Proofs.Ytbedollfokdldaa.lawCMYKSub
open Go.ChangeShapes Go.WideShapes Go.ChangeAt Go.RowKit
set_option linter.unusedVariables false

set_option maxRecDepth 20000 in
set_option maxHeartbeats 4000000 in
theorem walk (a b c d : Int) (vv : Value) (zs : List Int) (a' b' c' d' : Int) (w : World) (ha : I64 a) (hb : I64 b) (hc : I64 c) (hd : I64 d) (h : RdI w vv zs) (ha' : I64 a') (hb' : I64 b') (hc' : I64 c') (hd' : I64 d') :
    Calls Try.prog 9 #[box4 a b c d, vv, box4 a' b' c' d'] w fun e w' => e = .returned (.bool true) ∧ Grows w w' := by
  have HR := Lib.hid h
  obtain ⟨A, cc, rfl, _⟩ := h
  go_enter Try.func9, Try.ntmps9
  go_wp2_with fail
  refine (asRect_any _ _ _ _ _).mono ?_
  rintro e w1 ⟨rfl, hg1⟩
  have q0 : w1.cell? ⟨w.heap.size, 0, none⟩ = some (.int .i64 a) := hg1.cell_some (by simp)
  have q1 : w1.cell? ⟨w.heap.size, 1, none⟩ = some (.int .i64 b) := hg1.cell_some (by simp)
  have q2 : w1.cell? ⟨w.heap.size, 2, none⟩ = some (.int .i64 c) := hg1.cell_some (by simp)
  have q3 : w1.cell? ⟨w.heap.size, 3, none⟩ = some (.int .i64 d) := hg1.cell_some (by simp)
  have HN : Hid (BoxAt w1 (w.heap.size + 1) a' b' c' d') := ⟨hg1.cell_some (cell_top (by simp) rfl), hg1.cell_some (cell_top (by simp) rfl), hg1.cell_some (cell_top (by simp) rfl), hg1.cell_some (cell_top (by simp) rfl)⟩
  have HG : Hid (Grows w w1) := (((Grows.rfl' w).alloc' _).alloc' _).step hg1
  clear hg1
  go_upto_region 2 with fail
  have HB : Hid (BoxAt (w1.alloc (.cells #[.int .i64 a, .int .i64 b, .int .i64 c, .int .i64 d] 26)) w1.heap.size a b c d) := ⟨cell_top rfl rfl, cell_top rfl rfl, cell_top rfl rfl, cell_top rfl rfl⟩
  have hgw : Grows w1 (w1.alloc (.cells #[.int .i64 a, .int .i64 b, .int .i64 c, .int .i64 d] 26)) := (Grows.rfl' _).alloc' _
  replace HN := Lib.hid (HN.out.grows hgw)
  have HR0 : Hid (BoxAt (w1.alloc (.cells #[.int .i64 a, .int .i64 b, .int .i64 c, .int .i64 d] 26)) w.heap.size a b c d) := BoxAt.grows ⟨q0, q1, q2, q3⟩ hgw
  replace HG := Lib.hid (HG.out.step hgw)
  clear hgw q0 q1 q2 q3
  generalize w1.alloc (.cells #[.int .i64 a, .int .i64 b, .int .i64 c, .int .i64 d] 26) = w2 at *
  generalize w1.heap.size = bx at *
  by_cases hm : Meet a b c d a' b' c' d'
  · have HM := Lib.hid hm
    clear hm
    apply wp_region_flo_lit 9 (by kernel_rfl) (by kernel_rfl)
    iterate 7
      apply flo_pin
      · intro wq hgq hdq Kq hKq
        obtain ⟨p0, p1, p2, p3⟩ := HB.out.grows ((Grows.rfl' _).drew'.step hgq)
        obtain ⟨n0', n1', n2', n3'⟩ := HN.out.grows ((Grows.rfl' _).drew'.step hgq)
        go_wp2_with ((first | (go_at_call 10; refine (asRect_any _ _ _ _ _).mono ?_) | (go_at_call 19; refine (common_yes _ _ _ _ _ _ _ _ _ HM.out).mono ?_)); rintro e wq' ⟨rfl, hgq'⟩)
        first | exact hKq _ (Grows.rfl' _) | exact hKq _ hgq'
      · kernel_rfl
      intro _
    apply flo_any (RectBox w2) RectBox.keep
    · intro wq hgq hdq Kq hKq
      have hsz4 : w2.heap.size ≤ wq.heap.size := hgq.size
      go_wp2
      exact hKq _ _ ((Grows.rfl' _).alloc' _) ⟨wq.heap.size, rfl, hsz4, _, _, _, _, heap_alloc_new _ _⟩
    · kernel_rfl
    intro vx
    simp only [Act.put, List.setIfInBounds_toArray, List.set_cons_succ, List.set_cons_zero]
    apply flo_put 7 vx (RectIn w2 (max a a') (max b b') (min c c') (min d d')) RectIn.keep rfl rfl (by kernel_rfl)
    · intro wq hgq hdq Kq hKq
      obtain ⟨rb, rfl, hrb, r1, r2, r3, r4, kb⟩ := hdq 7 _ rfl (by kernel_rfl)
      clear hdq
      have KS := Lib.hid ((((kb.set0 (max a a')).set1 (max b b')).set2 (min c c')).set3 (min d d'))
      have HGS := Lib.hid ((((hgq.set' (p := ⟨rb, 0, none⟩) hrb (.int .i64 (max a a'))).set' (p := ⟨rb, 1, none⟩) hrb (.int .i64 (max b b'))).set' (p := ⟨rb, 2, none⟩) hrb (.int .i64 (min c c'))).set' (p := ⟨rb, 3, none⟩) hrb (.int .i64 (min d d')))
      obtain ⟨k0, k1, k2, k3⟩ := kb.cells
      have kf := kb.frozen
      clear kb
      go_wp2
      refine hKq _ HGS.out ?_ ⟨rb, rfl, hrb, KS.out⟩
      repeat' first | exact Keeps.nil | refine Keeps.idle ?_ | refine Keeps.snoc ?_ ?_
      intro h
      exact ⟨rb, rfl, hrb, _, _, _, _, KS.out⟩
    · kernel_rfl
    intro _
    refine flo_end ?_
    intro w3 hg3 hd3
    obtain ⟨rb, rfl, hrb, kb⟩ := hd3 8 _ rfl
    clear hd3
    have HGS : Hid (Grows w2 w3) := (Grows.rfl' _).drew'.step hg3
    have KS := Lib.hid kb
    clear hg3 kb
    go_upto_region 3 with fail
    replace HB := Lib.hid (HB.out.grows HGS.out)
    replace HN := Lib.hid (HN.out.grows HGS.out)
    replace HR0 := Lib.hid (HR0.out.grows HGS.out)
    replace HG := Lib.hid (HG.out.step HGS.out)
    obtain ⟨r0, r1, r2, r3⟩ := HR0.out
    by_cases hf : Fine a b c d
    · have HF := Lib.hid hf
      clear hf
      go_wp2_with fail
      refine (fine_yes _ _ _ _ _ HF.out).mono ?_
      rintro e w5 ⟨rfl, hg5⟩
      replace HB := Lib.hid (HB.out.grows hg5)
      replace HN := Lib.hid (HN.out.grows hg5)
      replace KS := Lib.hid (KS.out.grows hg5)
      replace HG := Lib.hid (HG.out.step hg5)
      clear hg5 r0 r1 r2 r3 HR0 HGS
      generalize w5 = w4' at *
      have htl := total_le (k := 4) (by omega) HF.out
      have hsd := sd_in (k := 4) (by omega) HF.out
      obtain ⟨i0, L, hL, hLl, hLi, hLp⟩ := part_of (k := 4) (zs := zs) (by omega) (by omega) HF.out HM.out
      have HL : Hid (∀ W, Grows w W → Calls Try.prog 25 #[box4 a b c d, .slice A zs.length cc, box4 a' b' c' d'] W (NewPic (max a a') (max b b') (min c c') (min d d') (sd a c 4) L W)) := by
        intro W hW
        obtain ⟨e1, e2, e3⟩ := hL
        have h := implSub_yes a b c d a' b' c' d' _ zs i0 W HF.out (HR.out.grows hW) HM.out.symm (by rw [Int.max_comm a' a, Int.max_comm b' b]; exact e1) e2
        rw [Int.max_comm a' a, Int.max_comm b' b, Int.min_comm c' c, Int.min_comm d' d, ← e3] at h
        exact h
      have HLL := Lib.hid hLl
      have HLI := Lib.hid hLi
      have HLP := Lib.hid hLp
      clear hL hLl hLi hLp
      generalize sd a c 4 = S at *
      go_wp2_with fail
      apply wp_region_lex_lit 6 (by kernel_rfl) (by kernel_rfl)
      iterate 4
        apply lex_pin
        · intro wq hgq hdq Kq hKq
          obtain ⟨p0, p1, p2, p3⟩ := HB.out.grows ((Grows.rfl' _).drew'.step hgq)
          obtain ⟨n0', n1', n2', n3'⟩ := HN.out.grows ((Grows.rfl' _).drew'.step hgq)
          go_wp2_with ((go_at_call 10; refine (asRect_any _ _ _ _ _).mono ?_); rintro e wq' ⟨rfl, hgq'⟩)
          first | exact hKq _ (Grows.rfl' _) | exact hKq _ hgq'
        · kernel_rfl
      apply lex_any (OwnPic (max a a') (max b b') (min c c') (min d d') S L w4') OwnPic.keep
      · intro wq hgq hdq Kq hKq
        go_wp2_with fail
        refine ((HL.out _ (HG.out.drew'.step hgq)).mono fun e w' h => NewPic.own h ((Grows.rfl' w4').drew'.step hgq)).mono ?_
        rintro e wq' ⟨v', rfl, hgq', hp⟩
        go_wp2_with fail
        exact hKq _ _ hgq' hp
      intro vb
      simp only [Act.put, List.setIfInBounds_toArray, List.set_cons_succ, List.set_cons_zero]
      apply lex_any (ZeroBox w4') ZeroBox.keep
      · intro wq hgq hdq Kq hKq
        have hsz4 : w4'.heap.size ≤ wq.heap.size := hgq.size
        go_wp2
        exact hKq _ _ ((Grows.rfl' _).alloc' _) ⟨wq.heap.size, rfl, hsz4, heap_alloc_new _ _⟩
      intro vx
      simp only [Act.put, List.setIfInBounds_toArray, List.set_cons_succ, List.set_cons_zero]
      refine lex_end ?_
      intro w5 hg5 hd5
      obtain ⟨p, rfl, ho⟩ := hd5 4 _ rfl
      obtain ⟨pbx, rfl, hpb, hbox⟩ := hd5 5 _ rfl
      clear hd5
      obtain ⟨A', cc', rfl⟩ := ho.form
      obtain ⟨e0, e1, e2, e3, e4, e5⟩ := block_cells hbox
      have z5 := block_frozen hbox
      have HX : Hid (PicAt (stored w5 pbx (.int .i64 (max a a')) (.int .i64 (max b b')) (.int .i64 (min c c')) (.int .i64 (min d d')) (.int .i64 (S)) (.slice A' (L).length cc')) pbx (max a a') (max b b') (min c c') (min d d') (S) (.slice A' (L).length cc')) := stored_block hbox (.int .i64 (max a a')) (.int .i64 (max b b')) (.int .i64 (min c c')) (.int .i64 (min d d')) (.int .i64 (S)) (.slice A' (L).length cc')
      have HO5 := Lib.hid (stored_own ho hbox hpb (.int .i64 (max a a')) (.int .i64 (max b b')) (.int .i64 (min c c')) (.int .i64 (min d d')) (.int .i64 (S)) (.slice A' (L).length cc'))
      have HG5 : Hid (Grows w4' (stored w5 pbx (.int .i64 (max a a')) (.int .i64 (max b b')) (.int .i64 (min c c')) (.int .i64 (min d d')) (.int .i64 (S)) (.slice A' (L).length cc'))) := stored_grows ((Grows.rfl' w4').drew'.step hg5) hpb _ _ _ _ _ _
      have HCH : Hid (((((((w5.setCell ⟨pbx, 0, none⟩ (.int .i64 (max a a'))).setCell ⟨pbx, 1, none⟩ (.int .i64 (max b b'))).setCell ⟨pbx, 2, none⟩ (.int .i64 (min c c'))).setCell ⟨pbx, 3, none⟩ (.int .i64 (min d d'))).setCell ⟨pbx, 4, none⟩ (.int .i64 (S))).setCell ⟨pbx, 5, none⟩ (.slice A' (L).length cc')) = stored w5 pbx (.int .i64 (max a a')) (.int .i64 (max b b')) (.int .i64 (min c c')) (.int .i64 (min d d')) (.int .i64 (S)) (.slice A' (L).length cc')) := rfl
      clear ho hbox hg5
      go_upto_region 6 with fail
      rw [HCH.out]
      clear HCH z5 e0 e1 e2 e3 e4 e5
      generalize stored w5 pbx (.int .i64 (max a a')) (.int .i64 (max b b')) (.int .i64 (min c c')) (.int .i64 (min d d')) (.int .i64 (S)) (.slice A' (L).length cc') = w6 at *
      replace HB := Lib.hid (HB.out.grows HG5.out)
      replace KS := Lib.hid (KS.out.grows HG5.out)
      replace HG := Lib.hid (HG.out.step HG5.out)
      have HR1 : Hid (RdI w6 (.slice A' L.length cc') L) := HO5.out.rd (by have := HLL.out; omega) HLI.out
      clear HN hpb HL HO5
      obtain ⟨t0, t1, t2, t3, t4, t5⟩ := HX.out.cells
      obtain ⟨q0, q1, q2, q3⟩ := KS.out.cells
      go_wp2_with fail
      clear t0 t1 t2 t3 t4 t5 HG5 HLI
      obtain ⟨⟨f1, f2⟩, ⟨f3, f4⟩, ⟨f5, f6⟩, ⟨f7, f8⟩⟩ := HF.out
      go_loopw [11, 12, 13, 14] (fun yv _ _ _ wr => ∃ y : Int, max b b' ≤ y ∧ y ≤ min d d' ∧ yv = .int .i64 y ∧ Grows w6 wr) (fun yv _ _ _ _ => (min d d' - intOf yv).toNat)
      case atStart => exact ⟨max b b', by omega, by have := HM.out; unfold Meet at this; omega, rfl, Grows.rfl' _⟩
      case round =>
        obtain ⟨y, hy1, hy2, rfl, hgr⟩ := hrel
        have z0 := hgr.cell_some q0
        have z2 := hgr.cell_some q2
        have z3 := hgr.cell_some q3
        by_cases hyd : y < min d d'
        · have hb1 : decide (y < min d d') = true := decide_eq_true hyd
          have HY : Hid (max b b' ≤ y ∧ y < min d d') := ⟨hy1, hyd⟩
          have HGR := Lib.hid hgr
          clear hgr
          obtain ⟨wo, rfl⟩ : ∃ wo : World, wo = wr := ⟨_, rfl⟩
          go_wp2_with fail
          go_loopw [12, 13, 14] (fun xv _ _ wr => ∃ x : Int, max a a' ≤ x ∧ x ≤ min c c' ∧ xv = .int .i64 x ∧ Grows wo wr) (fun xv _ _ _ => (min c c' - intOf xv).toNat)
          case atStart => exact ⟨max a a', by omega, by have := HM.out; unfold Meet at this; omega, rfl, Grows.rfl' _⟩
          case round =>
            obtain ⟨x, hx1, hx2, rfl, hgr2⟩ := hrel
            have hg2 := HGR.out.step hgr2
            have HG2 := Lib.hid hg2
            have u2 := hg2.cell_some q2
            by_cases hxc : x < min c c'
            · obtain ⟨t0, t1, t2, t3, t4, t5⟩ := (HX.out.grows hg2).cells
              have hb2 : decide (x < min c c') = true := decide_eq_true hxc
              have hmm := HM.out
              obtain ⟨j, hj, hjl, hj1⟩ := HLP.out x y (by unfold Inn; omega) hx1 hy1
              have HAT := Lib.hid (at_yes (max a a') (max b b') (min c c') (min d d') S x y 4 j _ L wr ⟨_, rfl, HR1.out.grows hg2⟩ (by omega) (by omega) (by omega) (by omega) (by omega) (by omega) (by omega) (by omega) hj hjl)
              have HRD := Lib.hid (fun (W : World) (hW : Grows w W) => specRead_any a b c d x y _ zs W HF.out (HR.out.grows hW))
              rw [hj1] at HAT
              clear hj hjl hj1 hmm hg2
              have hp0 : pxs a b c d 4 zs x y = [px a b c d 4 zs x y 0, px a b c d 4 zs x y 1, px a b c d 4 zs x y 2, px a b c d 4 zs x y 3] := rfl
              rw [hp0] at HAT
              clear hp0 HLP
              generalize px a b c d 4 zs x y 0 = u at *
              generalize px a b c d 4 zs x y 1 = u1 at *
              generalize px a b c d 4 zs x y 2 = u2' at *
              generalize px a b c d 4 zs x y 3 = u3 at *
              have e0 : (u != u) = false := by simp
              have e1 : (u1 != u1) = false := by simp
              have e2 : (u2' != u2') = false := by simp
              have e3 : (u3 != u3) = false := by simp
              go_wp2_with fail
              refine HAT.out.mono ?_
              rintro e w7 ⟨s, rfl, hrd, hg7⟩
              have HG7 := Lib.hid (hgr2.step hg7)
              obtain ⟨A3, cc3, rfl, _, _, _, _, hrr⟩ := hrd
              obtain ⟨bb, oo, rfl, hcell⟩ := hrr 0 u rfl
              obtain ⟨bb', oo', hbo, hcell1⟩ := hrr 1 u1 rfl
              simp only [Option.some.injEq, Addr.mk.injEq, and_true] at hbo
              obtain ⟨rfl, rfl⟩ := hbo
              obtain ⟨bb', oo', hbo, hcell2⟩ := hrr 2 u2' rfl
              simp only [Option.some.injEq, Addr.mk.injEq, and_true] at hbo
              obtain ⟨rfl, rfl⟩ := hbo
              obtain ⟨bb', oo', hbo, hcell3⟩ := hrr 3 u3 rfl
              simp only [Option.some.injEq, Addr.mk.injEq, and_true] at hbo
              obtain ⟨rfl, rfl⟩ := hbo
              clear hrr hg7 hgr2 HG2 HAT t0 t1 t2 t3 t4 t5
              simp only [List.length_cons, List.length_nil, Nat.zero_add, Nat.add_zero] at hcell ⊢
              go_upto_region 15 with fail
              apply wp_region_lex_lit 23 (by kernel_rfl) (by kernel_rfl)
              iterate 23
                apply lex_pin
                · intro wq hgq hdq Kq hKq
                  obtain ⟨p0, p1, p2, p3⟩ := HB.out.grows (HGR.out.step (HG7.out.drew'.step hgq))
                  have hcell' := hgq.cell_some hcell
                  have hcell1' := hgq.cell_some hcell1
                  have hcell2' := hgq.cell_some hcell2
                  have hcell3' := hgq.cell_some hcell3
                  go_wp2_with ((go_at_call 27; refine (HRD.out _ (HG.out.step (HGR.out.step (HG7.out.drew'.step hgq)))).mono ?_); rintro e wq' ⟨rfl, hgq'⟩)
                  first | exact hKq _ (Grows.rfl' _) | exact hKq _ hgq'
                · kernel_rfl
              refine lex_end ?_
              intro w9 hg9 _
              have hg := HG7.out.drew'.step hg9
              clear hg9
              go_wp2_with fail
              go_roundw
              case rel => exact ⟨x + 1, by omega, by omega, rfl, hg⟩
              case measure => simp [intOf]; omega
            · have hb2 : decide (x < min c c') = false := decide_eq_false hxc
              go_wp2_with fail
              go_roundw
              case rel => exact ⟨y + 1, by have := HY.out; omega, by have := HY.out; omega, rfl, HG2.out⟩
              case measure => have := HY.out; simp [intOf]; omega
        · have hb1 : decide (y < min d d') = false := decide_eq_false hyd
          go_wp2_with fail
          go_ret
          exact ⟨rfl, HG.out.step hgr⟩
    · have HF := Lib.hid hf
      clear hf
      go_wp2_with fail
      refine (fine_no _ _ _ _ _ HF.out ha hb).mono ?_
      rintro e w5 ⟨rfl, hg5⟩
      go_wp2_with fail
      go_ret
      exact ⟨rfl, HG.out.step hg5⟩
  · have HM := Lib.hid hm
    clear hm
    apply wp_region_flo_lit 9 (by kernel_rfl) (by kernel_rfl)
    iterate 7
      apply flo_pin
      · intro wq hgq hdq Kq hKq
        obtain ⟨p0, p1, p2, p3⟩ := HB.out.grows ((Grows.rfl' _).drew'.step hgq)
        obtain ⟨n0', n1', n2', n3'⟩ := HN.out.grows ((Grows.rfl' _).drew'.step hgq)
        go_wp2_with ((first | (go_at_call 10; refine (asRect_any _ _ _ _ _).mono ?_) | (go_at_call 19; refine (common_no _ _ _ _ _ _ _ _ _ HM.out).mono ?_)); rintro e wq' ⟨rfl, hgq'⟩)
        first | exact hKq _ (Grows.rfl' _) | exact hKq _ hgq'
      · kernel_rfl
      intro _
    apply flo_any (RectBox w2) RectBox.keep
    · intro wq hgq hdq Kq hKq
      have hsz4 : w2.heap.size ≤ wq.heap.size := hgq.size
      go_wp2
      exact hKq _ _ ((Grows.rfl' _).alloc' _) ⟨wq.heap.size, rfl, hsz4, _, _, _, _, heap_alloc_new _ _⟩
    · kernel_rfl
    intro vx
    simp only [Act.put, List.setIfInBounds_toArray, List.set_cons_succ, List.set_cons_zero]
    apply flo_put 7 vx (RectIn w2 (0) (0) (0) (0)) RectIn.keep rfl rfl (by kernel_rfl)
    · intro wq hgq hdq Kq hKq
      obtain ⟨rb, rfl, hrb, r1, r2, r3, r4, kb⟩ := hdq 7 _ rfl (by kernel_rfl)
      clear hdq
      have KS := Lib.hid ((((kb.set0 (0)).set1 (0)).set2 (0)).set3 (0))
      have HGS := Lib.hid ((((hgq.set' (p := ⟨rb, 0, none⟩) hrb (.int .i64 (0))).set' (p := ⟨rb, 1, none⟩) hrb (.int .i64 (0))).set' (p := ⟨rb, 2, none⟩) hrb (.int .i64 (0))).set' (p := ⟨rb, 3, none⟩) hrb (.int .i64 (0)))
      obtain ⟨k0, k1, k2, k3⟩ := kb.cells
      have kf := kb.frozen
      clear kb
      go_wp2
      refine hKq _ HGS.out ?_ ⟨rb, rfl, hrb, KS.out⟩
      repeat' first | exact Keeps.nil | refine Keeps.idle ?_ | refine Keeps.snoc ?_ ?_
      intro h
      exact ⟨rb, rfl, hrb, _, _, _, _, KS.out⟩
    · kernel_rfl
    intro _
    refine flo_end ?_
    intro w3 hg3 hd3
    obtain ⟨rb, rfl, hrb, kb⟩ := hd3 8 _ rfl
    clear hd3
    have HGS : Hid (Grows w2 w3) := (Grows.rfl' _).drew'.step hg3
    have KS := Lib.hid kb
    clear hg3 kb
    go_upto_region 3 with fail
    replace HB := Lib.hid (HB.out.grows HGS.out)
    replace HN := Lib.hid (HN.out.grows HGS.out)
    replace HR0 := Lib.hid (HR0.out.grows HGS.out)
    replace HG := Lib.hid (HG.out.step HGS.out)
    obtain ⟨r0, r1, r2, r3⟩ := HR0.out
    by_cases hf : Fine a b c d
    · have HF := Lib.hid hf
      clear hf
      go_wp2_with fail
      refine (fine_yes _ _ _ _ _ HF.out).mono ?_
      rintro e w5 ⟨rfl, hg5⟩
      go_wp2_with fail
      go_ret
      exact ⟨rfl, HG.out.step hg5⟩
    · have HF := Lib.hid hf
      clear hf
      go_wp2_with fail
      refine (fine_no _ _ _ _ _ HF.out ha hb).mono ?_
      rintro e w5 ⟨rfl, hg5⟩
      go_wp2_with fail
      go_ret
      exact ⟨rfl, HG.out.step hg5⟩

set_option linter.unusedVariables false
set_option maxRecDepth 100000 in
theorem lifted (os : Os) (started : os.Started) (H : Type) (enc : TypeId × Value → H) :
    ReturnsInHanded {} Try.checked os 9 .any (Rows.fnCMYKSubSpec.pre6 enc Try.prog Try.f9 Rows.fnCMYKSubRow.domain false) (Rows.fnCMYKSubSpec.post enc Try.prog Try.f9 false true false false) := by
  refine returnsInHanded_of_change_sized (C := Try.checked) own started (by kernel_rfl) Try.func9
    (ChangeSpec.witness6 (enc := enc) (C := Try.checked) false ⟨#[], #[.agg #[.int .i64 0, .int .i64 0, .int .i64 0, .int .i64 0], .slice none 0 0, .agg #[.int .i64 0, .int .i64 0, .int .i64 0, .int .i64 0]], []⟩ 8 (by kernel_rfl) (by kernel_rfl) (by kernel_rfl) (by kernel_rfl)) ?_
  intro W base args ds gs before hval0 hW hcnd hsz0 _
  have hval : ∀ (j : Nat) t v, Try.f9.params[j]? = some t → args[j]? = some v → Value.okWide Try.prog W .any base t v := hval0
  have hsz : (DataW.weightsEach Try.prog (Try.f9.params.toList ++ Rows.fnCMYKSubSpec.plain.varTypes Try.prog) (ds ++ gs)).all (· ≤ reachBytes) = true := hsz0
  clear hsz0
  have hW' := hW
  obtain ⟨p, q, hA0, hV, rfl, hfz, hnd⟩ := hW
  have hA : DataW.TrodAll enc Try.prog W 0 (fun _ => true) true Try.f9.params.toList args.toList ds p := hA0
  rw [Try.params9] at hA hval hsz
  obtain ⟨v0, vs0, d0, ds0, p0, q0, hargs, rfl, rfl, h0, r0⟩ := trodAll_cons hA
  obtain ⟨v1, vs1, d1, ds1, p1, q1, rfl, rfl, rfl, h1, r1⟩ := trodAll_cons r0
  obtain ⟨v2, vs2, d2, ds2, p2, q2, rfl, rfl, rfl, h2, r2⟩ := trodAll_cons r1
  obtain ⟨rfl, rfl, rfl⟩ := trodAll_nil r2
  obtain rfl : args = #[v0, v1, v2] := by cases args; simp_all
  obtain ⟨rfl, rfl⟩ := trodVars_none hV
  have k0 := h0
  have lt0 : ∀ x ∈ p0, x.block < W.heap.size := by obtain ⟨m, hm⟩ := k0; exact DataW.trod_lt m _ _ _ hm
  have k1 := h1
  have lt1 : ∀ x ∈ p1, x.block < W.heap.size := by obtain ⟨m, hm⟩ := k1; exact DataW.trod_lt m _ _ _ hm
  have k2 := h2
  have lt2 : ∀ x ∈ p2, x.block < W.heap.size := by obtain ⟨m, hm⟩ := k2; exact DataW.trod_lt m _ _ _ hm
  obtain ⟨s0a, s0b, s0c, s0d, rfl, ⟨b0a, b0b, b0c, b0d⟩⟩ := open_four Try.underlying23 (by kernel_rfl) cells23 (hval 0 23 v0 rfl rfl) h0
  obtain ⟨z1, hz1⟩ := open_list (hval 1 24 v1 rfl rfl) h1 (fun el sp hd => by subst hd; exact sized_slice hsz (j := 1) (t := 24) (e := 3) rfl rfl Try.underlying24)
  obtain ⟨s2a, s2b, s2c, s2d, rfl, ⟨b2a, b2b, b2c, b2d⟩⟩ := open_four Try.underlying23 (by kernel_rfl) cells23 (hval 2 23 v2 rfl rfl) h2
  refine (walk s0a s0b s0c s0d v1 z1 s2a s2b s2c s2d W b0a b0b b0c b0d hz1 b2a b2b b2c b2d).mono fun e W' ⟨he, bel⟩ => ?_
  subst he
  exact ⟨_, rfl, _, _, _, [], _, [], hW', trodAll_mk1 (shut_bool Try.underlying4 _), (trodAll_cons_mk (Below.trod laidOut (by kernel_rfl) (of_decide_eq_true (by kernel_rfl)) k0 bel lt0) (trodAll_cons_mk (Below.trod laidOut (by kernel_rfl) (of_decide_eq_true (by kernel_rfl)) k1 bel lt1) (trodAll_cons_mk (Below.trod laidOut (by kernel_rfl) (of_decide_eq_true (by kernel_rfl)) k2 bel lt2) trodAll_mk0))), rfl, bel.frame _, fun h => by cases h⟩

theorem proved : Rows.FnCMYKSubSaid :=
  OpenClaim.holds_of_wide 9 Try.f9 rfl rfl rfl rfl rfl rfl rfl ⟨rfl, rfl, rfl, rfl, rfl⟩ rfl rfl rfl rfl rfl (by kernel_rfl) Try.func9 (by kernel_rfl)
    (of_decide_eq_true (by kernel_rfl)) (by unfold Func.isWrapper; first | (rw [if_pos (by decide +kernel)]; kernel_rfl) | (rw [if_neg (by decide +kernel)]; exact ⟨rfl, rfl⟩))
    (fun os started H enc _ => lifted os started H enc)
#print axioms proved
end Go.Proofs.Ytbedollfokdldaa.lawCMYKSub

/-
  FnYCbCrSubRead returns true for every input, and each argument reads afterwards as before. Conditions: none beyond the row's own.
-/
import Derived.Test.YtbmpjehahimelaaYSubR
import Derived.Test.YtbmpjehahimelaaLift
import Derived.Deep.Cut
namespace Go.Proofs.Ytbmpjehahimelaa.lawYCbCrSubRead
open Go.ChangeShapes Go.WideShapes Go.ChangeAt Go.RowKit
set_option linter.unusedVariables false

/-- A new box for a color, made since the world W. -/
def ZeroCol (W : World) (v : Value) (w : World) : Prop := ∃ cb, v = .pointer (some ⟨cb, 0, none⟩) ∧ W.heap.size ≤ cb ∧ Blk4 w cb 34 0 0 0 0
theorem ZeroCol.keep {W : World} (v : Value) (w w' : World) (hg : Grows w w') (h : ZeroCol W v w) : ZeroCol W v w' := by
  obtain ⟨cb, h1, h2, h3⟩ := h
  exact ⟨cb, h1, h2, h3.grows hg⟩

set_option maxRecDepth 20000 in
set_option maxHeartbeats 4000000 in
theorem walk (a b c d r : Int) (vy : Value) (ys : List Int) (vb : Value) (bs : List Int) (vr : Value) (rs : List Int) (a' b' c' d' x y : Int) (w : World) (ha : I64 a) (hb : I64 b) (hc : I64 c) (hd : I64 d) (hr : I64 r) (h1 : RdI w vy ys) (h2 : RdI w vb bs) (h3 : RdI w vr rs) (ha' : I64 a') (hb' : I64 b') (hc' : I64 c') (hd' : I64 d') (hx : I64 x) (hy : I64 y) :
    Calls Try.prog 5 #[box4 a b c d, .int .i64 r, vy, vb, vr, box4 a' b' c' d', .int .i64 x, .int .i64 y] w fun e w' => e = .returned (.bool true) ∧ Grows w w' := by
  have H1 := Lib.hid h1
  have H2 := Lib.hid h2
  have H3 := Lib.hid h3
  obtain ⟨A1, c1, rfl, _⟩ := h1
  obtain ⟨A2, c2, rfl, _⟩ := h2
  obtain ⟨A3, c3, rfl, _⟩ := h3
  go_enter Try.func5, Try.ntmps5
  go_wp2_with fail
  refine (asRect_any _ _ _ _ _).mono ?_
  rintro e w1 ⟨rfl, hg1⟩
  have q0 : w1.cell? ⟨w.heap.size, 0, none⟩ = some (.int .i64 a) := hg1.cell_some (by simp)
  have q1 : w1.cell? ⟨w.heap.size, 1, none⟩ = some (.int .i64 b) := hg1.cell_some (by simp)
  have q2 : w1.cell? ⟨w.heap.size, 2, none⟩ = some (.int .i64 c) := hg1.cell_some (by simp)
  have q3 : w1.cell? ⟨w.heap.size, 3, none⟩ = some (.int .i64 d) := hg1.cell_some (by simp)
  have HN : Hid (BoxAt w1 (w.heap.size + 1) a' b' c' d') := ⟨hg1.cell_some (cell_top (by simp) rfl), hg1.cell_some (cell_top (by simp) rfl), hg1.cell_some (cell_top (by simp) rfl), hg1.cell_some (cell_top (by simp) rfl)⟩
  have HG : Hid (Grows w w1) := (((Grows.rfl' w).alloc' _).alloc' _).step hg1
  clear hg1
  go_upto_region 2 with fail
  have HB : Hid (BoxAt (w1.alloc (.cells #[.int .i64 a, .int .i64 b, .int .i64 c, .int .i64 d] 25)) w1.heap.size a b c d) := ⟨cell_top rfl rfl, cell_top rfl rfl, cell_top rfl rfl, cell_top rfl rfl⟩
  have hgw : Grows w1 (w1.alloc (.cells #[.int .i64 a, .int .i64 b, .int .i64 c, .int .i64 d] 25)) := (Grows.rfl' _).alloc' _
  replace HN := Lib.hid (HN.out.grows hgw)
  have HR0 : Hid (BoxAt (w1.alloc (.cells #[.int .i64 a, .int .i64 b, .int .i64 c, .int .i64 d] 25)) w.heap.size a b c d) := BoxAt.grows ⟨q0, q1, q2, q3⟩ hgw
  replace HG := Lib.hid (HG.out.step hgw)
  clear hgw q0 q1 q2 q3
  generalize w1.alloc (.cells #[.int .i64 a, .int .i64 b, .int .i64 c, .int .i64 d] 25) = w2 at *
  generalize w1.heap.size = bx at *
  obtain ⟨r0, r1, r2, r3⟩ := HR0.out
  by_cases hf : PlainY a b c d r
  · have HP := Lib.hid hf
    clear hf
    have HSR : Hid (∀ W, Grows w W → Calls Try.prog 14 #[box4 a b c d, .int .i64 r, .slice A1 ys.length c1, .slice A2 bs.length c2, .slice A3 rs.length c3, box4 a' b' c' d', .int .i64 x, .int .i64 y] W fun e w' => e = .returned (.agg #[.int .i64 (partY a b c d a' b' c' d' ys x y), .int .i64 (partC a b c d r a' b' c' d' bs x y), .int .i64 (partC a b c d r a' b' c' d' rs x y), .int .i64 0]) ∧ Grows W w') := fun W hW => subRead_any _ _ _ _ _ _ _ _ _ _ _ _ _ _ ys bs rs W HP.out (H1.out.grows hW) (H2.out.grows hW) (H3.out.grows hW)
    have HRD : Hid (∀ W, Grows w W → Calls Try.prog 12 #[box4 a b c d, .int .i64 r, .slice A1 ys.length c1, .slice A2 bs.length c2, .slice A3 rs.length c3, .int .i64 x, .int .i64 y] W fun e w' => e = .returned (.agg #[.int .i64 (colY a b c d ys x y), .int .i64 (colC a b c d r bs x y), .int .i64 (colC a b c d r rs x y), .int .i64 0]) ∧ Grows W w') := fun W hW => readY_any a b c d r x y _ _ _ ys bs rs W HP.out (H1.out.grows hW) (H2.out.grows hW) (H3.out.grows hW)
    have HV : Hid ((Meet a' b' c' d' a b c d ∧ Inn (max a' a) (max b' b) (min c' c) (min d' d) x y → partY a b c d a' b' c' d' ys x y = colY a b c d ys x y ∧ partC a b c d r a' b' c' d' bs x y = colC a b c d r bs x y ∧ partC a b c d r a' b' c' d' rs x y = colC a b c d r rs x y) ∧ (¬ (Meet a' b' c' d' a b c d ∧ Inn (max a' a) (max b' b) (min c' c) (min d' d) x y) → partY a b c d a' b' c' d' ys x y = 0 ∧ partC a b c d r a' b' c' d' bs x y = 0 ∧ partC a b c d r a' b' c' d' rs x y = 0)) := by
      refine ⟨fun h => ?_, fun h => ?_⟩
      · unfold partY partC; rw [if_pos h, if_pos h, if_pos h]; exact ⟨rfl, rfl, rfl⟩
      · unfold partY partC; rw [if_neg h, if_neg h, if_neg h]; exact ⟨rfl, rfl, rfl⟩
    generalize partY a b c d a' b' c' d' ys x y = u0 at *
    generalize partC a b c d r a' b' c' d' bs x y = u1 at *
    generalize partC a b c d r a' b' c' d' rs x y = u2 at *
    go_wp2_with fail
    refine (plainY_yes _ _ _ _ _ _ HP.out).mono ?_
    rintro e w3 ⟨rfl, hg3⟩
    replace HB := Lib.hid (HB.out.grows hg3)
    replace HN := Lib.hid (HN.out.grows hg3)
    replace HR0 := Lib.hid (HR0.out.grows hg3)
    replace HG := Lib.hid (HG.out.step hg3)
    clear hg3 r0 r1 r2 r3
    go_wp2_with fail
    apply wp_region_lex_lit 11 (by kernel_rfl) (by kernel_rfl)
    iterate 10
      apply lex_pin
      · intro wq hgq hdq Kq hKq
        obtain ⟨p0, p1, p2, p3⟩ := HB.out.grows ((Grows.rfl' _).drew'.step hgq)
        obtain ⟨n0', n1', n2', n3'⟩ := HN.out.grows ((Grows.rfl' _).drew'.step hgq)
        go_wp2_with ((first | (go_at_call 7; refine (asRect_any _ _ _ _ _).mono ?_) | (go_at_call 14; refine (HSR.out _ (HG.out.drew'.step hgq)).mono ?_)); rintro e wq' ⟨rfl, hgq'⟩)
        first | exact hKq _ (Grows.rfl' _) | exact hKq _ hgq'
      · kernel_rfl
    apply lex_any (ZeroCol w3) ZeroCol.keep
    · intro wq hgq hdq Kq hKq
      have hsz4 : w3.heap.size ≤ wq.heap.size := hgq.size
      go_wp2
      exact hKq _ _ ((Grows.rfl' _).alloc' _) ⟨wq.heap.size, rfl, hsz4, heap_alloc_new _ _⟩
    intro vx
    simp only [Act.put, List.setIfInBounds_toArray, List.set_cons_succ, List.set_cons_zero]
    refine lex_end ?_
    intro w4 hg4 hd4
    obtain ⟨cb, rfl, hcb, kb⟩ := hd4 10 _ rfl
    clear hd4
    have HG34 : Hid (Grows w3 w4) := (Grows.rfl' _).drew'.step hg4
    have HC := Lib.hid ((((kb.set0 u0).set1 u1).set2 u2).set3 0)
    have HGS : Hid (Grows w3 ((((w4.setCell ⟨cb, 0, none⟩ (.int .i64 u0)).setCell ⟨cb, 1, none⟩ (.int .i64 u1)).setCell ⟨cb, 2, none⟩ (.int .i64 u2)).setCell ⟨cb, 3, none⟩ (.int .i64 0))) := (((HG34.out.set' hcb _).set' hcb _).set' hcb _).set' hcb _
    obtain ⟨k0, k1, k2, k3⟩ := kb.cells
    have kf := kb.frozen
    clear hg4 kb
    go_upto_region 5 with fail
    generalize (((w4.setCell ⟨cb, 0, none⟩ (.int .i64 u0)).setCell ⟨cb, 1, none⟩ (.int .i64 u1)).setCell ⟨cb, 2, none⟩ (.int .i64 u2)).setCell ⟨cb, 3, none⟩ (.int .i64 0) = w2 at *
    clear k0 k1 k2 k3 kf HG34
    replace HB := Lib.hid (HB.out.grows HGS.out)
    replace HN := Lib.hid (HN.out.grows HGS.out)
    replace HR0 := Lib.hid (HR0.out.grows HGS.out)
    replace HG := Lib.hid (HG.out.step HGS.out)
    clear HGS
    by_cases hm : Meet a b c d a' b' c' d'
    · have HM := Lib.hid hm
      clear hm
      apply wp_region_flo_lit 9 (by kernel_rfl) (by kernel_rfl)
      iterate 7
        apply flo_pin
        · intro wq hgq hdq Kq hKq
          obtain ⟨p0, p1, p2, p3⟩ := HB.out.grows ((Grows.rfl' _).drew'.step hgq)
          obtain ⟨n0', n1', n2', n3'⟩ := HN.out.grows ((Grows.rfl' _).drew'.step hgq)
          go_wp2_with ((first | (go_at_call 7; refine (asRect_any _ _ _ _ _).mono ?_) | (go_at_call 8; refine (common_yes _ _ _ _ _ _ _ _ _ HM.out).mono ?_)); rintro e wq' ⟨rfl, hgq'⟩)
          first | exact hKq _ (Grows.rfl' _) | exact hKq _ hgq'
        · kernel_rfl
        intro _
      apply flo_any (RectBox w2) RectBox.keep
      · intro wq hgq hdq Kq hKq
        have hsz4 : w2.heap.size ≤ wq.heap.size := hgq.size
        go_wp2
        exact hKq _ _ ((Grows.rfl' _).alloc' _) ⟨wq.heap.size, rfl, hsz4, _, _, _, _, heap_alloc_new _ _⟩
      · kernel_rfl
      intro vx
      simp only [Act.put, List.setIfInBounds_toArray, List.set_cons_succ, List.set_cons_zero]
      apply flo_put 7 vx (RectIn w2 (max a a') (max b b') (min c c') (min d d')) RectIn.keep rfl rfl (by kernel_rfl)
      · intro wq hgq hdq Kq hKq
        obtain ⟨rb, rfl, hrb, r1, r2, r3, r4, kb⟩ := hdq 7 _ rfl (by kernel_rfl)
        clear hdq
        have KS := Lib.hid ((((kb.set0 (max a a')).set1 (max b b')).set2 (min c c')).set3 (min d d'))
        have HGS := Lib.hid ((((hgq.set' (p := ⟨rb, 0, none⟩) hrb (.int .i64 (max a a'))).set' (p := ⟨rb, 1, none⟩) hrb (.int .i64 (max b b'))).set' (p := ⟨rb, 2, none⟩) hrb (.int .i64 (min c c'))).set' (p := ⟨rb, 3, none⟩) hrb (.int .i64 (min d d')))
        obtain ⟨k0, k1, k2, k3⟩ := kb.cells
        have kf := kb.frozen
        clear kb
        go_wp2
        refine hKq _ HGS.out ?_ ⟨rb, rfl, hrb, KS.out⟩
        repeat' first | exact Keeps.nil | refine Keeps.idle ?_ | refine Keeps.snoc ?_ ?_
        intro h
        exact ⟨rb, rfl, hrb, _, _, _, _, KS.out⟩
      · kernel_rfl
      intro _
      refine flo_end ?_
      intro w3 hg3 hd3
      obtain ⟨rb, rfl, hrb, kb⟩ := hd3 8 _ rfl
      clear hd3
      have HGS : Hid (Grows w2 w3) := (Grows.rfl' _).drew'.step hg3
      have KS := Lib.hid kb
      clear hg3 kb
      go_upto_region 6 with fail
      replace HB := Lib.hid (HB.out.grows HGS.out)
      replace HN := Lib.hid (HN.out.grows HGS.out)
      replace HR0 := Lib.hid (HR0.out.grows HGS.out)
      replace HG := Lib.hid (HG.out.step HGS.out)
      replace HC := Lib.hid (HC.out.grows HGS.out)
      obtain ⟨k0, k1, k2, k3⟩ := KS.out.cells
      by_cases hin : Inn (max a a') (max b b') (min c c') (min d d') x y
      · have HIN := Lib.hid hin
        have hq : Inn (max a' a) (max b' b) (min c' c) (min d' d) x y := by obtain ⟨i1, i2, i3, i4⟩ := hin; unfold Inn; omega
        have HU := Lib.hid (HV.out.1 ⟨HM.out.symm, hq⟩)
        clear hin hq
        go_wp2_with fail
        refine (has_yes _ _ _ _ _ _ _ HIN.out).mono ?_
        rintro e w6 ⟨rfl, hg6⟩
        replace HB := Lib.hid (HB.out.grows hg6)
        replace HC := Lib.hid (HC.out.grows hg6)
        replace HG := Lib.hid (HG.out.step hg6)
        clear hg6 k0 k1 k2 k3 KS
        obtain ⟨z0, z1, z2⟩ := HU.out
        rw [← z0, ← z1, ← z2] at HRD
        clear z0 z1 z2 HU HV
        go_wp2_with fail
        apply wp_region_lex_lit 19 (by kernel_rfl) (by kernel_rfl)
        iterate 13
          apply lex_pin
          · intro wq hgq hdq Kq hKq
            obtain ⟨s0, s1, s2, s3⟩ := HB.out.grows ((Grows.rfl' _).drew'.step hgq)
            obtain ⟨d0, d1, d2, d3⟩ := (HC.out.grows ((Grows.rfl' _).drew'.step hgq)).cells
            go_wp2_with ((go_at_call 12; refine (HRD.out _ (HG.out.drew'.step hgq)).mono ?_); rintro e wq' ⟨rfl, hgq'⟩)
            first | exact hKq _ (Grows.rfl' _) | exact hKq _ hgq'
          · kernel_rfl
        apply lex_any (HasRectP a b c d) (HasRectP.keep)
        · intro wq hgq hdq Kq hKq
          go_wp2_with fail
          refine ((implNewY_any _ _ _ _ _ _ HP.out).mono fun e w' h => NewPl.hasRect h).mono ?_
          rintro e wq' ⟨v, rfl, hgq', hh⟩
          go_wp2_with fail
          exact hKq _ _ hgq' hh
        intro vn
        simp only [Act.put, List.setIfInBounds_toArray, List.set_cons_succ, List.set_cons_zero]
        apply lex_pinv (box4 a b c d)
        · intro wq hgq hdq Kq hKq
          obtain ⟨ys', cs', r', p1', p2', p3', rfl⟩ := hdq 13 _ rfl (by kernel_rfl)
          have hfr := field_rectP
          go_wp2
          exact hKq _ (Grows.rfl' _)
        simp only [Act.put, List.setIfInBounds_toArray, List.set_cons_succ, List.set_cons_zero]
        iterate 4
          apply lex_pinv
          · intro wq hgq hdq Kq hKq
            obtain ⟨s0, s1, s2, s3⟩ := HB.out.grows ((Grows.rfl' _).drew'.step hgq)
            go_wp2
            exact hKq _ (Grows.rfl' _)
          simp only [Act.put, List.setIfInBounds_toArray, List.set_cons_succ, List.set_cons_zero]
        refine lex_end ?_
        intro w8 hg8 _
        go_wp2
        go_ret
        exact ⟨rfl, HG.out.drew'.step hg8⟩
      · have HIN := Lib.hid hin
        have hq : ¬ (Meet a' b' c' d' a b c d ∧ Inn (max a' a) (max b' b) (min c' c) (min d' d) x y) := fun h => hin (by obtain ⟨i1, i2, i3, i4⟩ := h.2; unfold Inn; omega)
        have HU := Lib.hid (HV.out.2 hq)
        clear hin hq
        go_wp2_with fail
        refine (has_no _ _ _ _ _ _ _ HIN.out).mono ?_
        rintro e w6 ⟨rfl, hg6⟩
        replace HB := Lib.hid (HB.out.grows hg6)
        replace HC := Lib.hid (HC.out.grows hg6)
        replace HG := Lib.hid (HG.out.step hg6)
        clear hg6 k0 k1 k2 k3 KS
        obtain ⟨z0, z1, z2⟩ := HU.out
        rw [z0, z1, z2] at HC
        clear z0 z1 z2 HU HV HRD HSR
        go_wp2_with fail
        apply wp_region_lex_lit 12 (by kernel_rfl) (by kernel_rfl)
        iterate 6
          apply lex_pin
          · intro wq hgq hdq Kq hKq
            obtain ⟨s0, s1, s2, s3⟩ := HB.out.grows ((Grows.rfl' _).drew'.step hgq)
            obtain ⟨d0, d1, d2, d3⟩ := (HC.out.grows ((Grows.rfl' _).drew'.step hgq)).cells
            go_wp2
            exact hKq _ (Grows.rfl' _)
          · kernel_rfl
        apply lex_any (HasRectP a b c d) (HasRectP.keep)
        · intro wq hgq hdq Kq hKq
          go_wp2_with fail
          refine ((implNewY_any _ _ _ _ _ _ HP.out).mono fun e w' h => NewPl.hasRect h).mono ?_
          rintro e wq' ⟨v, rfl, hgq', hh⟩
          go_wp2_with fail
          exact hKq _ _ hgq' hh
        intro vn
        simp only [Act.put, List.setIfInBounds_toArray, List.set_cons_succ, List.set_cons_zero]
        apply lex_pinv (box4 a b c d)
        · intro wq hgq hdq Kq hKq
          obtain ⟨ys', cs', r', p1', p2', p3', rfl⟩ := hdq 6 _ rfl (by kernel_rfl)
          have hfr := field_rectP
          go_wp2
          exact hKq _ (Grows.rfl' _)
        simp only [Act.put, List.setIfInBounds_toArray, List.set_cons_succ, List.set_cons_zero]
        iterate 4
          apply lex_pinv
          · intro wq hgq hdq Kq hKq
            obtain ⟨s0, s1, s2, s3⟩ := HB.out.grows ((Grows.rfl' _).drew'.step hgq)
            go_wp2
            exact hKq _ (Grows.rfl' _)
          simp only [Act.put, List.setIfInBounds_toArray, List.set_cons_succ, List.set_cons_zero]
        refine lex_end ?_
        intro w8 hg8 _
        go_wp2
        go_ret
        exact ⟨rfl, HG.out.drew'.step hg8⟩
    · have HM := Lib.hid hm
      have HU := Lib.hid (HV.out.2 fun h => hm h.1.symm)
      clear hm
      apply wp_region_flo_lit 9 (by kernel_rfl) (by kernel_rfl)
      iterate 7
        apply flo_pin
        · intro wq hgq hdq Kq hKq
          obtain ⟨p0, p1, p2, p3⟩ := HB.out.grows ((Grows.rfl' _).drew'.step hgq)
          obtain ⟨n0', n1', n2', n3'⟩ := HN.out.grows ((Grows.rfl' _).drew'.step hgq)
          go_wp2_with ((first | (go_at_call 7; refine (asRect_any _ _ _ _ _).mono ?_) | (go_at_call 8; refine (common_no _ _ _ _ _ _ _ _ _ HM.out).mono ?_)); rintro e wq' ⟨rfl, hgq'⟩)
          first | exact hKq _ (Grows.rfl' _) | exact hKq _ hgq'
        · kernel_rfl
        intro _
      apply flo_any (RectBox w2) RectBox.keep
      · intro wq hgq hdq Kq hKq
        have hsz4 : w2.heap.size ≤ wq.heap.size := hgq.size
        go_wp2
        exact hKq _ _ ((Grows.rfl' _).alloc' _) ⟨wq.heap.size, rfl, hsz4, _, _, _, _, heap_alloc_new _ _⟩
      · kernel_rfl
      intro vx
      simp only [Act.put, List.setIfInBounds_toArray, List.set_cons_succ, List.set_cons_zero]
      apply flo_put 7 vx (RectIn w2 (0) (0) (0) (0)) RectIn.keep rfl rfl (by kernel_rfl)
      · intro wq hgq hdq Kq hKq
        obtain ⟨rb, rfl, hrb, r1, r2, r3, r4, kb⟩ := hdq 7 _ rfl (by kernel_rfl)
        clear hdq
        have KS := Lib.hid ((((kb.set0 (0)).set1 (0)).set2 (0)).set3 (0))
        have HGS := Lib.hid ((((hgq.set' (p := ⟨rb, 0, none⟩) hrb (.int .i64 (0))).set' (p := ⟨rb, 1, none⟩) hrb (.int .i64 (0))).set' (p := ⟨rb, 2, none⟩) hrb (.int .i64 (0))).set' (p := ⟨rb, 3, none⟩) hrb (.int .i64 (0)))
        obtain ⟨k0, k1, k2, k3⟩ := kb.cells
        have kf := kb.frozen
        clear kb
        go_wp2
        refine hKq _ HGS.out ?_ ⟨rb, rfl, hrb, KS.out⟩
        repeat' first | exact Keeps.nil | refine Keeps.idle ?_ | refine Keeps.snoc ?_ ?_
        intro h
        exact ⟨rb, rfl, hrb, _, _, _, _, KS.out⟩
      · kernel_rfl
      intro _
      refine flo_end ?_
      intro w3 hg3 hd3
      obtain ⟨rb, rfl, hrb, kb⟩ := hd3 8 _ rfl
      clear hd3
      have HGS : Hid (Grows w2 w3) := (Grows.rfl' _).drew'.step hg3
      have KS := Lib.hid kb
      clear hg3 kb
      go_upto_region 6 with fail
      replace HB := Lib.hid (HB.out.grows HGS.out)
      replace HN := Lib.hid (HN.out.grows HGS.out)
      replace HR0 := Lib.hid (HR0.out.grows HGS.out)
      replace HG := Lib.hid (HG.out.step HGS.out)
      replace HC := Lib.hid (HC.out.grows HGS.out)
      obtain ⟨z0, z1, z2⟩ := HU.out
      rw [z0, z1, z2] at HC
      clear z0 z1 z2 HU HV HRD HSR KS
      go_wp2_with fail
      apply wp_region_lex_lit 12 (by kernel_rfl) (by kernel_rfl)
      iterate 6
        apply lex_pin
        · intro wq hgq hdq Kq hKq
          obtain ⟨s0, s1, s2, s3⟩ := HB.out.grows ((Grows.rfl' _).drew'.step hgq)
          obtain ⟨d0, d1, d2, d3⟩ := (HC.out.grows ((Grows.rfl' _).drew'.step hgq)).cells
          go_wp2
          exact hKq _ (Grows.rfl' _)
        · kernel_rfl
      apply lex_any (HasRectP a b c d) (HasRectP.keep)
      · intro wq hgq hdq Kq hKq
        go_wp2_with fail
        refine ((implNewY_any _ _ _ _ _ _ HP.out).mono fun e w' h => NewPl.hasRect h).mono ?_
        rintro e wq' ⟨v, rfl, hgq', hh⟩
        go_wp2_with fail
        exact hKq _ _ hgq' hh
      intro vn
      simp only [Act.put, List.setIfInBounds_toArray, List.set_cons_succ, List.set_cons_zero]
      apply lex_pinv (box4 a b c d)
      · intro wq hgq hdq Kq hKq
        obtain ⟨ys', cs', r', p1', p2', p3', rfl⟩ := hdq 6 _ rfl (by kernel_rfl)
        have hfr := field_rectP
        go_wp2
        exact hKq _ (Grows.rfl' _)
      simp only [Act.put, List.setIfInBounds_toArray, List.set_cons_succ, List.set_cons_zero]
      iterate 4
        apply lex_pinv
        · intro wq hgq hdq Kq hKq
          obtain ⟨s0, s1, s2, s3⟩ := HB.out.grows ((Grows.rfl' _).drew'.step hgq)
          go_wp2
          exact hKq _ (Grows.rfl' _)
        simp only [Act.put, List.setIfInBounds_toArray, List.set_cons_succ, List.set_cons_zero]
      refine lex_end ?_
      intro w8 hg8 _
      go_wp2
      go_ret
      exact ⟨rfl, HG.out.drew'.step hg8⟩
  · have HF := Lib.hid hf
    clear hf
    go_wp2_with fail
    refine (plainY_no _ _ _ _ _ _ HF.out ha hb).mono ?_
    rintro e w5 ⟨rfl, hg5⟩
    go_wp2_with fail
    go_ret
    exact ⟨rfl, HG.out.step hg5⟩

set_option linter.unusedVariables false
set_option maxRecDepth 100000 in
theorem lifted (os : Os) (started : os.Started) (H : Type) (enc : TypeId × Value → H) :
    ReturnsInHanded {} Try.checked os 5 .any (Rows.fnYCbCrSubReadSpec.pre6 enc Try.prog Try.f5 Rows.fnYCbCrSubReadRow.domain false) (Rows.fnYCbCrSubReadSpec.post enc Try.prog Try.f5 false true false false) := by
  refine returnsInHanded_of_change_sized (C := Try.checked) own started (by kernel_rfl) Try.func5
    (ChangeSpec.witness6 (enc := enc) (C := Try.checked) false ⟨#[], #[.agg #[.int .i64 0, .int .i64 0, .int .i64 0, .int .i64 0], .int .i64 0, .slice none 0 0, .slice none 0 0, .slice none 0 0, .agg #[.int .i64 0, .int .i64 0, .int .i64 0, .int .i64 0], .int .i64 0, .int .i64 0], []⟩ 8 (by kernel_rfl) (by kernel_rfl) (by kernel_rfl) (by kernel_rfl)) ?_
  intro W base args ds gs before hval0 hW hcnd hsz0 _
  have hval : ∀ (j : Nat) t v, Try.f5.params[j]? = some t → args[j]? = some v → Value.okWide Try.prog W .any base t v := hval0
  have hsz : (DataW.weightsEach Try.prog (Try.f5.params.toList ++ Rows.fnYCbCrSubReadSpec.plain.varTypes Try.prog) (ds ++ gs)).all (· ≤ reachBytes) = true := hsz0
  clear hsz0
  have hW' := hW
  obtain ⟨p, q, hA0, hV, rfl, hfz, hnd⟩ := hW
  have hA : DataW.TrodAll enc Try.prog W 0 (fun _ => true) true Try.f5.params.toList args.toList ds p := hA0
  rw [Try.params5] at hA hval hsz
  obtain ⟨v0, vs0, d0, ds0, p0, q0, hargs, rfl, rfl, h0, r0⟩ := trodAll_cons hA
  obtain ⟨v1, vs1, d1, ds1, p1, q1, rfl, rfl, rfl, h1, r1⟩ := trodAll_cons r0
  obtain ⟨v2, vs2, d2, ds2, p2, q2, rfl, rfl, rfl, h2, r2⟩ := trodAll_cons r1
  obtain ⟨v3, vs3, d3, ds3, p3, q3, rfl, rfl, rfl, h3, r3⟩ := trodAll_cons r2
  obtain ⟨v4, vs4, d4, ds4, p4, q4, rfl, rfl, rfl, h4, r4⟩ := trodAll_cons r3
  obtain ⟨v5, vs5, d5, ds5, p5, q5, rfl, rfl, rfl, h5, r5⟩ := trodAll_cons r4
  obtain ⟨v6, vs6, d6, ds6, p6, q6, rfl, rfl, rfl, h6, r6⟩ := trodAll_cons r5
  obtain ⟨v7, vs7, d7, ds7, p7, q7, rfl, rfl, rfl, h7, r7⟩ := trodAll_cons r6
  obtain ⟨rfl, rfl, rfl⟩ := trodAll_nil r7
  obtain rfl : args = #[v0, v1, v2, v3, v4, v5, v6, v7] := by cases args; simp_all
  obtain ⟨rfl, rfl⟩ := trodVars_none hV
  have k0 := h0
  have lt0 : ∀ x ∈ p0, x.block < W.heap.size := by obtain ⟨m, hm⟩ := k0; exact DataW.trod_lt m _ _ _ hm
  have k1 := h1
  have lt1 : ∀ x ∈ p1, x.block < W.heap.size := by obtain ⟨m, hm⟩ := k1; exact DataW.trod_lt m _ _ _ hm
  have k2 := h2
  have lt2 : ∀ x ∈ p2, x.block < W.heap.size := by obtain ⟨m, hm⟩ := k2; exact DataW.trod_lt m _ _ _ hm
  have k3 := h3
  have lt3 : ∀ x ∈ p3, x.block < W.heap.size := by obtain ⟨m, hm⟩ := k3; exact DataW.trod_lt m _ _ _ hm
  have k4 := h4
  have lt4 : ∀ x ∈ p4, x.block < W.heap.size := by obtain ⟨m, hm⟩ := k4; exact DataW.trod_lt m _ _ _ hm
  have k5 := h5
  have lt5 : ∀ x ∈ p5, x.block < W.heap.size := by obtain ⟨m, hm⟩ := k5; exact DataW.trod_lt m _ _ _ hm
  have k6 := h6
  have lt6 : ∀ x ∈ p6, x.block < W.heap.size := by obtain ⟨m, hm⟩ := k6; exact DataW.trod_lt m _ _ _ hm
  have k7 := h7
  have lt7 : ∀ x ∈ p7, x.block < W.heap.size := by obtain ⟨m, hm⟩ := k7; exact DataW.trod_lt m _ _ _ hm
  obtain ⟨s0a, s0b, s0c, s0d, rfl, ⟨b0a, b0b, b0c, b0d⟩⟩ := open_four Try.underlying23 (by kernel_rfl) cells23 (hval 0 23 v0 rfl rfl) h0
  obtain ⟨x1, rfl, he1, _, w1⟩ := open_int Try.underlying3 (hval 1 3 v1 rfl rfl) h1
  obtain ⟨z2, hz2⟩ := open_list (hval 2 24 v2 rfl rfl) h2 (fun el sp hd => by subst hd; exact sized_slice hsz (j := 2) (t := 24) (e := 3) rfl rfl Try.underlying24)
  obtain ⟨z3, hz3⟩ := open_list (hval 3 24 v3 rfl rfl) h3 (fun el sp hd => by subst hd; exact sized_slice hsz (j := 3) (t := 24) (e := 3) rfl rfl Try.underlying24)
  obtain ⟨z4, hz4⟩ := open_list (hval 4 24 v4 rfl rfl) h4 (fun el sp hd => by subst hd; exact sized_slice hsz (j := 4) (t := 24) (e := 3) rfl rfl Try.underlying24)
  obtain ⟨s5a, s5b, s5c, s5d, rfl, ⟨b5a, b5b, b5c, b5d⟩⟩ := open_four Try.underlying23 (by kernel_rfl) cells23 (hval 5 23 v5 rfl rfl) h5
  obtain ⟨x6, rfl, he6, _, w6⟩ := open_int Try.underlying3 (hval 6 3 v6 rfl rfl) h6
  obtain ⟨x7, rfl, he7, _, w7⟩ := open_int Try.underlying3 (hval 7 3 v7 rfl rfl) h7
  refine (walk s0a s0b s0c s0d x1 v2 z2 v3 z3 v4 z4 s5a s5b s5c s5d x6 x7 W b0a b0b b0c b0d (bounds_i64 w1) hz2 hz3 hz4 b5a b5b b5c b5d (bounds_i64 w6) (bounds_i64 w7)).mono fun e W' ⟨he, bel⟩ => ?_
  subst he
  exact ⟨_, rfl, _, _, _, [], _, [], hW', trodAll_mk1 (shut_bool Try.underlying4 _), (trodAll_cons_mk (Below.trod laidOut (by kernel_rfl) (of_decide_eq_true (by kernel_rfl)) k0 bel lt0) (trodAll_cons_mk (Below.trod laidOut (by kernel_rfl) (of_decide_eq_true (by kernel_rfl)) k1 bel lt1) (trodAll_cons_mk (Below.trod laidOut (by kernel_rfl) (of_decide_eq_true (by kernel_rfl)) k2 bel lt2) (trodAll_cons_mk (Below.trod laidOut (by kernel_rfl) (of_decide_eq_true (by kernel_rfl)) k3 bel lt3) (trodAll_cons_mk (Below.trod laidOut (by kernel_rfl) (of_decide_eq_true (by kernel_rfl)) k4 bel lt4) (trodAll_cons_mk (Below.trod laidOut (by kernel_rfl) (of_decide_eq_true (by kernel_rfl)) k5 bel lt5) (trodAll_cons_mk (Below.trod laidOut (by kernel_rfl) (of_decide_eq_true (by kernel_rfl)) k6 bel lt6) (trodAll_cons_mk (Below.trod laidOut (by kernel_rfl) (of_decide_eq_true (by kernel_rfl)) k7 bel lt7) trodAll_mk0)))))))), rfl, bel.frame _, fun h => by cases h⟩

theorem proved : Rows.FnYCbCrSubReadSaid :=
  OpenClaim.holds_of_wide 5 Try.f5 rfl rfl rfl rfl rfl rfl rfl ⟨rfl, rfl, rfl, rfl, rfl⟩ rfl rfl rfl rfl rfl (by kernel_rfl) Try.func5 (by kernel_rfl)
    (of_decide_eq_true (by kernel_rfl)) (by unfold Func.isWrapper; first | (rw [if_pos (by decide +kernel)]; kernel_rfl) | (rw [if_neg (by decide +kernel)]; exact ⟨rfl, rfl⟩))
    (fun os started H enc _ => lifted os started H enc)
#print axioms proved
end Go.Proofs.Ytbmpjehahimelaa.lawYCbCrSubRead

/-
  FnAlphaSubEmpty returns true for every input, and each argument reads afterwards as before. Conditions: none beyond the row's own.
-/
import Derived.Test.YtcgdafcjipfccaaSub
import Derived.Test.YtcgdafcjipfccaaBoxPic
import Derived.Test.YtcgdafcjipfccaaLift
import Derived.Deep.Cut
namespace Go.Proofs.Ytcgdafcjipfccaa.lawAlphaSubEmpty
open Go.ChangeShapes Go.WideShapes Go.ChangeAt Go.RowKit
set_option linter.unusedVariables false

set_option maxHeartbeats 4000000 in
theorem walk (a b c d : Int) (vv : Value) (zs : List Int) (a' b' c' d' : Int) (w : World) (ha : I64 a) (hb : I64 b) (hc : I64 c) (hd : I64 d) (h : RdI w vv zs) (ha' : I64 a') (hb' : I64 b') (hc' : I64 c') (hd' : I64 d') :
    Calls Try.prog 8 #[box4 a b c d, vv, box4 a' b' c' d'] w fun e w' => e = .returned (.bool true) ∧ Grows w w' := by
  have HR := Lib.hid h
  have hfr := field_rect
  obtain ⟨A, cc, rfl, _⟩ := h
  go_enter Try.func8, Try.ntmps8
  go_wp2_with fail
  refine (asRect_any _ _ _ _ _).mono ?_
  rintro e w1 ⟨rfl, hg1⟩
  have q0 : w1.cell? ⟨w.heap.size, 0, none⟩ = some (.int .i64 a) := hg1.cell_some (by simp)
  have q1 : w1.cell? ⟨w.heap.size, 1, none⟩ = some (.int .i64 b) := hg1.cell_some (by simp)
  have q2 : w1.cell? ⟨w.heap.size, 2, none⟩ = some (.int .i64 c) := hg1.cell_some (by simp)
  have q3 : w1.cell? ⟨w.heap.size, 3, none⟩ = some (.int .i64 d) := hg1.cell_some (by simp)
  have HN : Hid (BoxAt w1 (w.heap.size + 1) a' b' c' d') := ⟨hg1.cell_some (cell_top (by simp) rfl), hg1.cell_some (cell_top (by simp) rfl), hg1.cell_some (cell_top (by simp) rfl), hg1.cell_some (cell_top (by simp) rfl)⟩
  have HG : Hid (Grows w w1) := (((Grows.rfl' w).alloc' _).alloc' _).step hg1
  clear hg1
  go_upto_region 2 with fail
  have HB : Hid (BoxAt (w1.alloc (.cells #[.int .i64 a, .int .i64 b, .int .i64 c, .int .i64 d] 25)) w1.heap.size a b c d) := ⟨cell_top rfl rfl, cell_top rfl rfl, cell_top rfl rfl, cell_top rfl rfl⟩
  have hgw : Grows w1 (w1.alloc (.cells #[.int .i64 a, .int .i64 b, .int .i64 c, .int .i64 d] 25)) := (Grows.rfl' _).alloc' _
  replace HN := Lib.hid (HN.out.grows hgw)
  have HR0 : Hid (BoxAt (w1.alloc (.cells #[.int .i64 a, .int .i64 b, .int .i64 c, .int .i64 d] 25)) w.heap.size a b c d) := BoxAt.grows ⟨q0, q1, q2, q3⟩ hgw
  replace HG := Lib.hid (HG.out.step hgw)
  clear hgw q0 q1 q2 q3
  generalize w1.alloc (.cells #[.int .i64 a, .int .i64 b, .int .i64 c, .int .i64 d] 25) = w2 at *
  generalize w1.heap.size = bx at *
  by_cases hm : Meet a b c d a' b' c' d'
  · have HM := Lib.hid hm
    clear hm
    apply wp_region_flo_lit 9 (by kernel_rfl) (by kernel_rfl)
    iterate 7
      apply flo_pin
      · intro wq hgq hdq Kq hKq
        obtain ⟨p0, p1, p2, p3⟩ := HB.out.grows ((Grows.rfl' _).drew'.step hgq)
        obtain ⟨n0', n1', n2', n3'⟩ := HN.out.grows ((Grows.rfl' _).drew'.step hgq)
        go_wp2_with ((first | (go_at_call 9; refine (asRect_any _ _ _ _ _).mono ?_) | (go_at_call 20; refine (common_yes _ _ _ _ _ _ _ _ _ HM.out).mono ?_)); rintro e wq' ⟨rfl, hgq'⟩)
        first | exact hKq _ (Grows.rfl' _) | exact hKq _ hgq'
      · kernel_rfl
      intro _
    apply flo_any (RectBox w2) RectBox.keep
    · intro wq hgq hdq Kq hKq
      have hsz4 : w2.heap.size ≤ wq.heap.size := hgq.size
      go_wp2
      exact hKq _ _ ((Grows.rfl' _).alloc' _) ⟨wq.heap.size, rfl, hsz4, _, _, _, _, heap_alloc_new _ _⟩
    · kernel_rfl
    intro vx
    simp only [Act.put, List.setIfInBounds_toArray, List.set_cons_succ, List.set_cons_zero]
    apply flo_put 7 vx (RectIn w2 (max a a') (max b b') (min c c') (min d d')) RectIn.keep rfl rfl (by kernel_rfl)
    · intro wq hgq hdq Kq hKq
      obtain ⟨rb, rfl, hrb, r1, r2, r3, r4, kb⟩ := hdq 7 _ rfl (by kernel_rfl)
      clear hdq
      have KS := Lib.hid ((((kb.set0 (max a a')).set1 (max b b')).set2 (min c c')).set3 (min d d'))
      have HGS := Lib.hid ((((hgq.set' (p := ⟨rb, 0, none⟩) hrb (.int .i64 (max a a'))).set' (p := ⟨rb, 1, none⟩) hrb (.int .i64 (max b b'))).set' (p := ⟨rb, 2, none⟩) hrb (.int .i64 (min c c'))).set' (p := ⟨rb, 3, none⟩) hrb (.int .i64 (min d d')))
      obtain ⟨k0, k1, k2, k3⟩ := kb.cells
      have kf := kb.frozen
      clear kb
      go_wp2
      refine hKq _ HGS.out ?_ ⟨rb, rfl, hrb, KS.out⟩
      repeat' first | exact Keeps.nil | refine Keeps.idle ?_ | refine Keeps.snoc ?_ ?_
      intro h
      exact ⟨rb, rfl, hrb, _, _, _, _, KS.out⟩
    · kernel_rfl
    intro _
    refine flo_end ?_
    intro w3 hg3 hd3
    obtain ⟨rb, rfl, hrb, kb⟩ := hd3 8 _ rfl
    clear hd3
    have HGS : Hid (Grows w2 w3) := (Grows.rfl' _).drew'.step hg3
    have KS := Lib.hid kb
    clear hg3 kb
    go_upto_region 3 with fail
    replace HB := Lib.hid (HB.out.grows HGS.out)
    replace HN := Lib.hid (HN.out.grows HGS.out)
    replace HR0 := Lib.hid (HR0.out.grows HGS.out)
    replace HG := Lib.hid (HG.out.step HGS.out)
    obtain ⟨r0, r1, r2, r3⟩ := HR0.out
    by_cases hf : Fine a b c d
    · have HF := Lib.hid hf
      clear hf
      go_wp2_with fail
      refine (fine_yes _ _ _ _ _ HF.out).mono ?_
      rintro e w5 ⟨rfl, hg5⟩
      go_wp2_with fail
      go_ret
      exact ⟨rfl, HG.out.step hg5⟩
    · have HF := Lib.hid hf
      clear hf
      go_wp2_with fail
      refine (fine_no _ _ _ _ _ HF.out ha hb).mono ?_
      rintro e w5 ⟨rfl, hg5⟩
      go_wp2_with fail
      go_ret
      exact ⟨rfl, HG.out.step hg5⟩
  · have HM := Lib.hid hm
    have HM2 : Hid (¬ Meet a' b' c' d' a b c d) := fun h => hm h.symm
    clear hm
    apply wp_region_flo_lit 9 (by kernel_rfl) (by kernel_rfl)
    iterate 7
      apply flo_pin
      · intro wq hgq hdq Kq hKq
        obtain ⟨p0, p1, p2, p3⟩ := HB.out.grows ((Grows.rfl' _).drew'.step hgq)
        obtain ⟨n0', n1', n2', n3'⟩ := HN.out.grows ((Grows.rfl' _).drew'.step hgq)
        go_wp2_with ((first | (go_at_call 9; refine (asRect_any _ _ _ _ _).mono ?_) | (go_at_call 20; refine (common_no _ _ _ _ _ _ _ _ _ HM.out).mono ?_)); rintro e wq' ⟨rfl, hgq'⟩)
        first | exact hKq _ (Grows.rfl' _) | exact hKq _ hgq'
      · kernel_rfl
      intro _
    apply flo_any (RectBox w2) RectBox.keep
    · intro wq hgq hdq Kq hKq
      have hsz4 : w2.heap.size ≤ wq.heap.size := hgq.size
      go_wp2
      exact hKq _ _ ((Grows.rfl' _).alloc' _) ⟨wq.heap.size, rfl, hsz4, _, _, _, _, heap_alloc_new _ _⟩
    · kernel_rfl
    intro vx
    simp only [Act.put, List.setIfInBounds_toArray, List.set_cons_succ, List.set_cons_zero]
    apply flo_put 7 vx (RectIn w2 (0) (0) (0) (0)) RectIn.keep rfl rfl (by kernel_rfl)
    · intro wq hgq hdq Kq hKq
      obtain ⟨rb, rfl, hrb, r1, r2, r3, r4, kb⟩ := hdq 7 _ rfl (by kernel_rfl)
      clear hdq
      have KS := Lib.hid ((((kb.set0 (0)).set1 (0)).set2 (0)).set3 (0))
      have HGS := Lib.hid ((((hgq.set' (p := ⟨rb, 0, none⟩) hrb (.int .i64 (0))).set' (p := ⟨rb, 1, none⟩) hrb (.int .i64 (0))).set' (p := ⟨rb, 2, none⟩) hrb (.int .i64 (0))).set' (p := ⟨rb, 3, none⟩) hrb (.int .i64 (0)))
      obtain ⟨k0, k1, k2, k3⟩ := kb.cells
      have kf := kb.frozen
      clear kb
      go_wp2
      refine hKq _ HGS.out ?_ ⟨rb, rfl, hrb, KS.out⟩
      repeat' first | exact Keeps.nil | refine Keeps.idle ?_ | refine Keeps.snoc ?_ ?_
      intro h
      exact ⟨rb, rfl, hrb, _, _, _, _, KS.out⟩
    · kernel_rfl
    intro _
    refine flo_end ?_
    intro w3 hg3 hd3
    obtain ⟨rb, rfl, hrb, kb⟩ := hd3 8 _ rfl
    clear hd3
    have HGS : Hid (Grows w2 w3) := (Grows.rfl' _).drew'.step hg3
    have KS := Lib.hid kb
    clear hg3 kb
    go_upto_region 3 with fail
    replace HB := Lib.hid (HB.out.grows HGS.out)
    replace HN := Lib.hid (HN.out.grows HGS.out)
    replace HR0 := Lib.hid (HR0.out.grows HGS.out)
    replace HG := Lib.hid (HG.out.step HGS.out)
    obtain ⟨r0, r1, r2, r3⟩ := HR0.out
    by_cases hf : Fine a b c d
    · have HF := Lib.hid hf
      clear hf
      go_wp2_with fail
      refine (fine_yes _ _ _ _ _ HF.out).mono ?_
      rintro e w5 ⟨rfl, hg5⟩
      replace HB := Lib.hid (HB.out.grows hg5)
      replace HN := Lib.hid (HN.out.grows hg5)
      replace HG := Lib.hid (HG.out.step hg5)
      clear hg5 r0 r1 r2 r3 HR0 KS HGS
      generalize w5 = w4' at *
      obtain ⟨L, hL⟩ : ∃ L : List Int, L = [] := ⟨_, rfl⟩
      have HL := Lib.hid hL
      clear hL
      go_wp2_with fail
      apply wp_region_lex_lit 6 (by kernel_rfl) (by kernel_rfl)
      iterate 4
        apply lex_pin
        · intro wq hgq hdq Kq hKq
          obtain ⟨p0, p1, p2, p3⟩ := HB.out.grows ((Grows.rfl' _).drew'.step hgq)
          obtain ⟨n0', n1', n2', n3'⟩ := HN.out.grows ((Grows.rfl' _).drew'.step hgq)
          go_wp2_with ((go_at_call 9; refine (asRect_any _ _ _ _ _).mono ?_); rintro e wq' ⟨rfl, hgq'⟩)
          first | exact hKq _ (Grows.rfl' _) | exact hKq _ hgq'
        · kernel_rfl
      apply lex_any (OwnPic 0 0 0 0 0 L w4') OwnPic.keep
      · intro wq hgq hdq Kq hKq
        go_wp2_with fail
        refine ((implSub_no _ _ _ _ _ _ _ _ _ zs _ HF.out (HR.out.grows (HG.out.drew'.step hgq)) HM2.out).mono fun e w' h => NewPic.own (zs := L) (by rw [HL.out]; exact h) ((Grows.rfl' w4').drew'.step hgq)).mono ?_
        rintro e wq' ⟨v', rfl, hgq', hp⟩
        go_wp2_with fail
        exact hKq _ _ hgq' hp
      intro vb
      simp only [Act.put, List.setIfInBounds_toArray, List.set_cons_succ, List.set_cons_zero]
      apply lex_any (ZeroBox w4') ZeroBox.keep
      · intro wq hgq hdq Kq hKq
        have hsz4 : w4'.heap.size ≤ wq.heap.size := hgq.size
        go_wp2
        exact hKq _ _ ((Grows.rfl' _).alloc' _) ⟨wq.heap.size, rfl, hsz4, heap_alloc_new _ _⟩
      intro vx
      simp only [Act.put, List.setIfInBounds_toArray, List.set_cons_succ, List.set_cons_zero]
      refine lex_end ?_
      intro w5 hg5 hd5
      obtain ⟨p, rfl, ho⟩ := hd5 4 _ rfl
      obtain ⟨pbx, rfl, hpb, hbox⟩ := hd5 5 _ rfl
      clear hd5
      obtain ⟨A', cc', rfl⟩ := ho.form
      obtain ⟨e0, e1, e2, e3, e4, e5⟩ := block_cells hbox
      have z5 := block_frozen hbox
      have HX : Hid (PicAt (stored w5 pbx (.int .i64 (0)) (.int .i64 (0)) (.int .i64 (0)) (.int .i64 (0)) (.int .i64 (0)) (.slice A' (L).length cc')) pbx (0) (0) (0) (0) (0) (.slice A' (L).length cc')) := stored_block hbox (.int .i64 (0)) (.int .i64 (0)) (.int .i64 (0)) (.int .i64 (0)) (.int .i64 (0)) (.slice A' (L).length cc')
      have HO5 := Lib.hid (stored_own ho hbox hpb (.int .i64 (0)) (.int .i64 (0)) (.int .i64 (0)) (.int .i64 (0)) (.int .i64 (0)) (.slice A' (L).length cc'))
      have HG5 : Hid (Grows w4' (stored w5 pbx (.int .i64 (0)) (.int .i64 (0)) (.int .i64 (0)) (.int .i64 (0)) (.int .i64 (0)) (.slice A' (L).length cc'))) := stored_grows ((Grows.rfl' w4').drew'.step hg5) hpb _ _ _ _ _ _
      have HCH : Hid (((((((w5.setCell ⟨pbx, 0, none⟩ (.int .i64 (0))).setCell ⟨pbx, 1, none⟩ (.int .i64 (0))).setCell ⟨pbx, 2, none⟩ (.int .i64 (0))).setCell ⟨pbx, 3, none⟩ (.int .i64 (0))).setCell ⟨pbx, 4, none⟩ (.int .i64 (0))).setCell ⟨pbx, 5, none⟩ (.slice A' (L).length cc')) = stored w5 pbx (.int .i64 (0)) (.int .i64 (0)) (.int .i64 (0)) (.int .i64 (0)) (.int .i64 (0)) (.slice A' (L).length cc')) := rfl
      clear ho hbox hg5
      go_upto_region 6 with fail
      rw [HCH.out]
      clear HCH z5 e0 e1 e2 e3 e4 e5
      generalize stored w5 pbx (.int .i64 (0)) (.int .i64 (0)) (.int .i64 (0)) (.int .i64 (0)) (.int .i64 (0)) (.slice A' (L).length cc') = w6 at *
      replace HB := Lib.hid (HB.out.grows HG5.out)
      replace HG := Lib.hid (HG.out.step HG5.out)
      clear HN HO5 hpb
      apply wp_region_lex_lit 24 (by kernel_rfl) (by kernel_rfl)
      iterate 18
        apply lex_pin
        · intro wq hgq hdq Kq hKq
          obtain ⟨p0, p1, p2, p3⟩ := HB.out.grows ((Grows.rfl' _).drew'.step hgq)
          obtain ⟨t0, t1, t2, t3, t4, t5⟩ := (HX.out.grows ((Grows.rfl' _).drew'.step hgq)).cells
          go_wp2
          exact hKq _ (Grows.rfl' _)
        · kernel_rfl
      apply lex_any (HasRect a b c d) (HasRect.keep)
      · intro wq hgq hdq Kq hKq
        go_wp2_with fail
        refine ((implNew_any _ _ _ _ _ HF.out).mono fun e w' h => h.hasRect).mono ?_
        rintro e wq' ⟨v, rfl, hgq', hp⟩
        go_wp2_with fail
        exact hKq _ _ hgq' hp
      intro vn
      simp only [Act.put, List.setIfInBounds_toArray, List.set_cons_succ, List.set_cons_zero]
      apply lex_pinv (box4 a b c d)
      · intro wq hgq hdq Kq hKq
        obtain ⟨st, p, rfl⟩ := hdq 18 _ rfl (by kernel_rfl)
        go_wp2
        exact hKq _ (Grows.rfl' _)
      simp only [Act.put, List.setIfInBounds_toArray, List.set_cons_succ, List.set_cons_zero]
      iterate 4
        apply lex_pinv
        · intro wq hgq hdq Kq hKq
          obtain ⟨p0, p1, p2, p3⟩ := HB.out.grows ((Grows.rfl' _).drew'.step hgq)
          go_wp2
          exact hKq _ (Grows.rfl' _)
        simp only [Act.put, List.setIfInBounds_toArray, List.set_cons_succ, List.set_cons_zero]
      refine lex_end ?_
      intro w8 hg8 _
      go_wp2
      go_ret
      exact ⟨rfl, HG.out.drew'.step hg8⟩
    · have HF := Lib.hid hf
      clear hf
      go_wp2_with fail
      refine (fine_no _ _ _ _ _ HF.out ha hb).mono ?_
      rintro e w5 ⟨rfl, hg5⟩
      go_wp2_with fail
      go_ret
      exact ⟨rfl, HG.out.step hg5⟩

set_option linter.unusedVariables false
set_option maxRecDepth 100000 in
theorem lifted (os : Os) (started : os.Started) (H : Type) (enc : TypeId × Value → H) :
    ReturnsInHanded {} Try.checked os 8 .any (Rows.fnAlphaSubEmptySpec.pre6 enc Try.prog Try.f8 Rows.fnAlphaSubEmptyRow.domain false) (Rows.fnAlphaSubEmptySpec.post enc Try.prog Try.f8 false true false false) := by
  refine returnsInHanded_of_change_sized (C := Try.checked) own started (by kernel_rfl) Try.func8
    (ChangeSpec.witness6 (enc := enc) (C := Try.checked) false ⟨#[], #[.agg #[.int .i64 0, .int .i64 0, .int .i64 0, .int .i64 0], .slice none 0 0, .agg #[.int .i64 0, .int .i64 0, .int .i64 0, .int .i64 0]], []⟩ 8 (by kernel_rfl) (by kernel_rfl) (by kernel_rfl) (by kernel_rfl)) ?_
  intro W base args ds gs before hval0 hW hcnd hsz0 _
  have hval : ∀ (j : Nat) t v, Try.f8.params[j]? = some t → args[j]? = some v → Value.okWide Try.prog W .any base t v := hval0
  have hsz : (DataW.weightsEach Try.prog (Try.f8.params.toList ++ Rows.fnAlphaSubEmptySpec.plain.varTypes Try.prog) (ds ++ gs)).all (· ≤ reachBytes) = true := hsz0
  clear hsz0
  have hW' := hW
  obtain ⟨p, q, hA0, hV, rfl, hfz, hnd⟩ := hW
  have hA : DataW.TrodAll enc Try.prog W 0 (fun _ => true) true Try.f8.params.toList args.toList ds p := hA0
  rw [Try.params8] at hA hval hsz
  obtain ⟨v0, vs0, d0, ds0, p0, q0, hargs, rfl, rfl, h0, r0⟩ := trodAll_cons hA
  obtain ⟨v1, vs1, d1, ds1, p1, q1, rfl, rfl, rfl, h1, r1⟩ := trodAll_cons r0
  obtain ⟨v2, vs2, d2, ds2, p2, q2, rfl, rfl, rfl, h2, r2⟩ := trodAll_cons r1
  obtain ⟨rfl, rfl, rfl⟩ := trodAll_nil r2
  obtain rfl : args = #[v0, v1, v2] := by cases args; simp_all
  obtain ⟨rfl, rfl⟩ := trodVars_none hV
  have k0 := h0
  have lt0 : ∀ x ∈ p0, x.block < W.heap.size := by obtain ⟨m, hm⟩ := k0; exact DataW.trod_lt m _ _ _ hm
  have k1 := h1
  have lt1 : ∀ x ∈ p1, x.block < W.heap.size := by obtain ⟨m, hm⟩ := k1; exact DataW.trod_lt m _ _ _ hm
  have k2 := h2
  have lt2 : ∀ x ∈ p2, x.block < W.heap.size := by obtain ⟨m, hm⟩ := k2; exact DataW.trod_lt m _ _ _ hm
  obtain ⟨s0a, s0b, s0c, s0d, rfl, ⟨b0a, b0b, b0c, b0d⟩⟩ := open_four Try.underlying23 (by kernel_rfl) cells23 (hval 0 23 v0 rfl rfl) h0
  obtain ⟨z1, hz1⟩ := open_list (hval 1 24 v1 rfl rfl) h1 (fun el sp hd => by subst hd; exact sized_slice hsz (j := 1) (t := 24) (e := 3) rfl rfl Try.underlying24)
  obtain ⟨s2a, s2b, s2c, s2d, rfl, ⟨b2a, b2b, b2c, b2d⟩⟩ := open_four Try.underlying23 (by kernel_rfl) cells23 (hval 2 23 v2 rfl rfl) h2
  refine (walk s0a s0b s0c s0d v1 z1 s2a s2b s2c s2d W b0a b0b b0c b0d hz1 b2a b2b b2c b2d).mono fun e W' ⟨he, bel⟩ => ?_
  subst he
  exact ⟨_, rfl, _, _, _, [], _, [], hW', trodAll_mk1 (shut_bool Try.underlying4 _), (trodAll_cons_mk (Below.trod laidOut (by kernel_rfl) (of_decide_eq_true (by kernel_rfl)) k0 bel lt0) (trodAll_cons_mk (Below.trod laidOut (by kernel_rfl) (of_decide_eq_true (by kernel_rfl)) k1 bel lt1) (trodAll_cons_mk (Below.trod laidOut (by kernel_rfl) (of_decide_eq_true (by kernel_rfl)) k2 bel lt2) trodAll_mk0))), rfl, bel.frame _, fun h => by cases h⟩

theorem proved : Rows.FnAlphaSubEmptySaid :=
  OpenClaim.holds_of_wide 8 Try.f8 rfl rfl rfl rfl rfl rfl rfl ⟨rfl, rfl, rfl, rfl, rfl⟩ rfl rfl rfl rfl rfl (by kernel_rfl) Try.func8 (by kernel_rfl)
    (of_decide_eq_true (by kernel_rfl)) (by unfold Func.isWrapper; first | (rw [if_pos (by decide +kernel)]; kernel_rfl) | (rw [if_neg (by decide +kernel)]; exact ⟨rfl, rfl⟩))
    (fun os started H enc _ => lifted os started H enc)
#print axioms proved
end Go.Proofs.Ytcgdafcjipfccaa.lawAlphaSubEmpty

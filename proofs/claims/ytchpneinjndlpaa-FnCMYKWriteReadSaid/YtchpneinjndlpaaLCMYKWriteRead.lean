/-
  FnCMYKWriteRead returns true for every input, and each argument reads afterwards as before. Conditions: none beyond the row's own.
-/
import Derived.Test.YtchpneinjndlpaaWrRead
import Derived.Test.YtchpneinjndlpaaBoxPic
import Derived.Test.YtchpneinjndlpaaLift
import Derived.Deep.Cut
namespace Go.Proofs.Ytchpneinjndlpaa.lawCMYKWriteRead
open Go.ChangeShapes Go.WideShapes Go.ChangeAt Go.RowKit
set_option linter.unusedVariables false

set_option maxHeartbeats 4000000 in
theorem walk (a b c d : Int) (vv : Value) (zs : List Int) (x y n0 n1 n2 n3 u v : Int) (w : World) (ha : I64 a) (hb : I64 b) (hc : I64 c) (hd : I64 d) (h : RdI w vv zs) (hx : I64 x) (hy : I64 y) (hn0 : I64 n0) (hn1 : I64 n1) (hn2 : I64 n2) (hn3 : I64 n3) (hu : I64 u) (hv : I64 v) :
    Calls Try.prog 5 #[box4 a b c d, vv, .int .i64 x, .int .i64 y, box4 n0 n1 n2 n3, .int .i64 u, .int .i64 v] w fun e w' => e = .returned (.bool true) ∧ Grows w w' := by
  have HR := Lib.hid h
  obtain ⟨A, cc, rfl, _⟩ := h
  go_enter Try.func5, Try.ntmps5
  go_wp2_with fail
  refine (asRect_any _ _ _ _ _).mono ?_
  rintro e w1 ⟨rfl, hg1⟩
  have q0 : w1.cell? ⟨w.heap.size, 0, none⟩ = some (.int .i64 a) := hg1.cell_some (by simp)
  have q1 : w1.cell? ⟨w.heap.size, 1, none⟩ = some (.int .i64 b) := hg1.cell_some (by simp)
  have q2 : w1.cell? ⟨w.heap.size, 2, none⟩ = some (.int .i64 c) := hg1.cell_some (by simp)
  have q3 : w1.cell? ⟨w.heap.size, 3, none⟩ = some (.int .i64 d) := hg1.cell_some (by simp)
  have hsz : w.heap.size < w1.heap.size := cell_lt q0
  have HN : Hid (BoxAt w1 (w.heap.size + 1) n0 n1 n2 n3) := ⟨(hg1).cell_some (by first | exact cell_top (by simp) rfl | simp), (hg1).cell_some (by first | exact cell_top (by simp) rfl | simp), (hg1).cell_some (by first | exact cell_top (by simp) rfl | simp), (hg1).cell_some (by first | exact cell_top (by simp) rfl | simp)⟩
  have HG : Hid (Grows w w1) := (((Grows.rfl' w).alloc' _).alloc' _).step hg1
  clear hg1
  by_cases hf : Fine a b c d
  · have HF := Lib.hid hf
    have htl := total_le (k := 4) (by omega) hf
    clear hf
    go_wp2_with fail
    refine (fine_yes _ _ _ _ _ HF.out).mono ?_
    rintro e w2 ⟨rfl, hg2⟩
    have HB : Hid (BoxAt w2 w1.heap.size a b c d) := ⟨hg2.cell_some (by simp), hg2.cell_some (by simp), hg2.cell_some (by simp), hg2.cell_some (by simp)⟩
    replace HN := Lib.hid (HN.out.grows (((Grows.rfl' _).alloc' _).step hg2))
    try replace HM := Lib.hid (HM.out.grows (((Grows.rfl' _).alloc' _).step hg2))
    replace HG : Hid (Grows w w2) := (HG.out.alloc' _).step hg2
    generalize w1.heap.size = bx at *
    clear hg2 q0 q1 q2 q3
    obtain ⟨q0, q1, q2, q3⟩ := HB.out
    by_cases hin : Inn a b c d x y
    · have HIN := Lib.hid hin
      clear hin
      go_wp2_with fail
      refine (has_yes _ _ _ _ _ _ _ HIN.out).mono ?_
      rintro e w3 ⟨rfl, hg3⟩
      replace HB := Lib.hid (HB.out.grows (hg3))
      replace HN := Lib.hid (HN.out.grows (hg3))
      try replace HM := Lib.hid (HM.out.grows (hg3))
      replace HG := Lib.hid (HG.out.step (hg3))
      clear q0 q1 q2 q3
      obtain ⟨q0, q1, q2, q3⟩ := HB.out
      clear hg3
      by_cases hin2 : Inn a b c d u v
      · have HIN2 := Lib.hid hin2
        clear hin2
        go_wp2_with fail
        refine (has_yes _ _ _ _ _ _ _ HIN2.out).mono ?_
        rintro e w4 ⟨rfl, hg4⟩
        replace HB := Lib.hid (HB.out.grows (hg4))
        replace HN := Lib.hid (HN.out.grows (hg4))
        try replace HM := Lib.hid (HM.out.grows (hg4))
        replace HG := Lib.hid (HG.out.step (hg4))
        clear q0 q1 q2 q3
        obtain ⟨q0, q1, q2, q3⟩ := HB.out
        clear hg4
        go_wp2_with fail
        apply wp_region_lex_lit 8 (by kernel_rfl) (by kernel_rfl)
        iterate 6
          apply lex_pin
          · intro wq hgq hdq Kq hKq
            obtain ⟨p0, p1, p2, p3⟩ := HB.out.grows ((Grows.rfl' _).drew'.step hgq)
            obtain ⟨n0', n1', n2', n3'⟩ := HN.out.grows ((Grows.rfl' _).drew'.step hgq)
            go_wp2_with ((go_at_call 14; refine (asColor_any _ _ _ _ _).mono ?_); rintro e wq' ⟨rfl, hgq'⟩)
            first | exact hKq _ (Grows.rfl' _) | exact hKq _ hgq'
          · kernel_rfl
        apply lex_any (OwnPic a b c d (sd a c 4) (bytesOf (total a b c d 4) (wr a b c d 4 (byteAt zs) x y [n0 % 256, n1 % 256, n2 % 256, n3 % 256])) w4) OwnPic.keep
        · intro wq hgq hdq Kq hKq
          go_wp2_with fail
          refine ((write_any _ _ _ _ _ _ n0 n1 n2 n3 _ zs _ HF.out (HR.out.grows (HG.out.drew'.step hgq))).mono fun e w' h => h.own ((Grows.rfl' w4).drew'.step hgq)).mono ?_
          rintro e wq' ⟨v', rfl, hgq', hp⟩
          go_wp2_with fail
          exact hKq _ _ hgq' hp
        intro vb
        simp only [Act.put, List.setIfInBounds_toArray, List.set_cons_succ, List.set_cons_zero]
        apply lex_any (ZeroBox w4) ZeroBox.keep
        · intro wq hgq hdq Kq hKq
          have hsz4 : w4.heap.size ≤ wq.heap.size := hgq.size
          go_wp2
          exact hKq _ _ ((Grows.rfl' _).alloc' _) ⟨wq.heap.size, rfl, hsz4, heap_alloc_new _ _⟩
        intro vx
        simp only [Act.put, List.setIfInBounds_toArray, List.set_cons_succ, List.set_cons_zero]
        refine lex_end ?_
        intro w5 hg5 hd5
        obtain ⟨p, rfl, ho⟩ := hd5 6 _ rfl
        obtain ⟨pbx, rfl, hpb, hbox⟩ := hd5 7 _ rfl
        clear hd5
        obtain ⟨A', cc', rfl⟩ := ho.form
        obtain ⟨e0, e1, e2, e3, e4, e5⟩ := block_cells hbox
        have z5 := block_frozen hbox
        have HX : Hid (PicAt (stored w5 pbx (.int .i64 a) (.int .i64 b) (.int .i64 c) (.int .i64 d) (.int .i64 (sd a c 4)) (.slice A' (bytesOf (total a b c d 4) (wr a b c d 4 (byteAt zs) x y [n0 % 256, n1 % 256, n2 % 256, n3 % 256])).length cc')) pbx a b c d (sd a c 4) (.slice A' (bytesOf (total a b c d 4) (wr a b c d 4 (byteAt zs) x y [n0 % 256, n1 % 256, n2 % 256, n3 % 256])).length cc')) := stored_block hbox (.int .i64 a) (.int .i64 b) (.int .i64 c) (.int .i64 d) (.int .i64 (sd a c 4)) (.slice A' (bytesOf (total a b c d 4) (wr a b c d 4 (byteAt zs) x y [n0 % 256, n1 % 256, n2 % 256, n3 % 256])).length cc')
        have HO5 := Lib.hid (stored_own ho hbox hpb (.int .i64 a) (.int .i64 b) (.int .i64 c) (.int .i64 d) (.int .i64 (sd a c 4)) (.slice A' (bytesOf (total a b c d 4) (wr a b c d 4 (byteAt zs) x y [n0 % 256, n1 % 256, n2 % 256, n3 % 256])).length cc'))
        have HG5 : Hid (Grows w4 (stored w5 pbx (.int .i64 a) (.int .i64 b) (.int .i64 c) (.int .i64 d) (.int .i64 (sd a c 4)) (.slice A' (bytesOf (total a b c d 4) (wr a b c d 4 (byteAt zs) x y [n0 % 256, n1 % 256, n2 % 256, n3 % 256])).length cc'))) := stored_grows ((Grows.rfl' w4).drew'.step hg5) hpb _ _ _ _ _ _
        have HCH : Hid (((((((w5.setCell ⟨pbx, 0, none⟩ (.int .i64 a)).setCell ⟨pbx, 1, none⟩ (.int .i64 b)).setCell ⟨pbx, 2, none⟩ (.int .i64 c)).setCell ⟨pbx, 3, none⟩ (.int .i64 d)).setCell ⟨pbx, 4, none⟩ (.int .i64 (sd a c 4))).setCell ⟨pbx, 5, none⟩ (.slice A' (bytesOf (total a b c d 4) (wr a b c d 4 (byteAt zs) x y [n0 % 256, n1 % 256, n2 % 256, n3 % 256])).length cc')) = stored w5 pbx (.int .i64 a) (.int .i64 b) (.int .i64 c) (.int .i64 d) (.int .i64 (sd a c 4)) (.slice A' (bytesOf (total a b c d 4) (wr a b c d 4 (byteAt zs) x y [n0 % 256, n1 % 256, n2 % 256, n3 % 256])).length cc')) := rfl
        clear ho hbox hg5
        go_upto_region 5 with fail
        rw [HCH.out]
        clear HCH z5 e0 e1 e2 e3 e4 e5
        generalize stored w5 pbx (.int .i64 a) (.int .i64 b) (.int .i64 c) (.int .i64 d) (.int .i64 (sd a c 4)) (.slice A' (bytesOf (total a b c d 4) (wr a b c d 4 (byteAt zs) x y [n0 % 256, n1 % 256, n2 % 256, n3 % 256])).length cc') = w6 at *
        replace HB := Lib.hid (HB.out.grows HG5.out)
        replace HN := Lib.hid (HN.out.grows HG5.out)
        replace HG := Lib.hid (HG.out.step HG5.out)
        clear q0 q1 q2 q3 hpb
        have HP6 : Hid (RdI w6 (.slice A' (bytesOf (total a b c d 4) (wr a b c d 4 (byteAt zs) x y [n0 % 256, n1 % 256, n2 % 256, n3 % 256])).length cc') (bytesOf (total a b c d 4) (wr a b c d 4 (byteAt zs) x y [n0 % 256, n1 % 256, n2 % 256, n3 % 256]))) := HO5.out.rd (by rw [bytesOf_length]; omega) (bytesOf_in fun i _ => by have := wr_in255 (a := a) (b := b) (c := c) (d := d) (x := x) (y := y) (k := 4) (byteAt_in zs) (ns255 (n0 := n0) (n1 := n1) (n2 := n2) (n3 := n3)) i; omega)
        clear HO5
        apply wp_region_lex_lit 9 (by kernel_rfl) (by kernel_rfl)
        iterate 9
          apply lex_pin
          · intro wq hgq hdq Kq hKq
            obtain ⟨p0, p1, p2, p3⟩ := HB.out.grows ((Grows.rfl' _).drew'.step hgq)
            obtain ⟨n0', n1', n2', n3'⟩ := HN.out.grows ((Grows.rfl' _).drew'.step hgq)
            obtain ⟨t0, t1, t2, t3, t4, t5⟩ := (HX.out.grows ((Grows.rfl' _).drew'.step hgq)).cells
            go_wp2_with ((first | (go_at_call 16; refine (readback_same _ _ _ _ _ _ n0 n1 n2 n3 _ zs _ HF.out HIN.out (HP6.out.grows ((Grows.rfl' _).drew'.step hgq))).mono ?_) | (go_at_call 17; refine (lowColor_any _ _ _ _ _).mono ?_)); rintro e wq' ⟨rfl, hgq'⟩)
            first | exact hKq _ (Grows.rfl' _) | exact hKq _ hgq'
          · kernel_rfl
        refine lex_end ?_
        intro w7 hg7 _
        have HG67 : Hid (Grows w6 w7) := (Grows.rfl' _).drew'.step hg7
        clear hg7
        replace HB := Lib.hid (HB.out.grows HG67.out)
        replace HN := Lib.hid (HN.out.grows HG67.out)
        replace HG := Lib.hid (HG.out.step HG67.out)
        have HP7 := Lib.hid (HP6.out.grows HG67.out)
        replace HX := Lib.hid (HX.out.grows HG67.out)
        clear HP6
        obtain ⟨_, _, _, _, _, t5⟩ := HX.out.cells
        go_wp2_with fail
        by_cases hxy : x = u ∧ y = v
        · obtain ⟨rfl, rfl⟩ := hxy
          have e1 : (x == x) = true := by simp
          have e2 : (y == y) = true := by simp
          apply wp_region_lex_lit 23 (by kernel_rfl) (by kernel_rfl)
          iterate 23
            apply lex_pin
            · intro wq hgq hdq Kq hKq
              obtain ⟨p0, p1, p2, p3⟩ := HB.out.grows (((Grows.rfl' _).drew').step hgq)
              have t5' := hgq.cell_some t5
              go_wp2
              exact hKq _ (Grows.rfl' _)
            · kernel_rfl
          refine lex_end ?_
          intro w8 hg8 _
          go_wp2
          go_ret
          exact ⟨rfl, HG.out.drew'.step hg8⟩
        · have HNE := Lib.hid hxy
          have hxy' : (x == u) = false ∨ ((x == u) = true ∧ (y == v) = false) := by
            by_cases e1 : x = u
            · right; subst e1; simp; intro e; exact hxy ⟨rfl, e⟩
            · left; simpa using e1
          clear hxy
          rcases hxy' with e1 | ⟨e1, e2⟩
          all_goals
            apply wp_region_lex_lit 23 (by kernel_rfl) (by kernel_rfl)
            iterate 14
              apply lex_pin
              · intro wq hgq hdq Kq hKq
                obtain ⟨p0, p1, p2, p3⟩ := HB.out.grows (((Grows.rfl' _).drew').step hgq)
                have t5' := hgq.cell_some t5
                go_wp2_with ((go_at_call 10; refine (fine_yes _ _ _ _ _ HF.out).mono ?_); rintro e wq' ⟨rfl, hgq'⟩)
                first | exact hKq _ (Grows.rfl' _) | exact hKq _ hgq'
              · kernel_rfl
            iterate 1
              apply lex_pin
              · intro wq hgq hdq Kq hKq
                go_wp2_with ((go_at_call 16; refine (readback_else _ _ _ _ _ _ _ _ n0 n1 n2 n3 _ zs _ HF.out HIN.out HIN2.out HNE.out (HP7.out.grows (((Grows.rfl' _).drew').step hgq))).mono ?_); rintro e wq' ⟨rfl, hgq'⟩)
                first | exact hKq _ (Grows.rfl' _) | exact hKq _ hgq'
              · kernel_rfl
            iterate 8
              apply lex_pin
              · intro wq hgq hdq Kq hKq
                obtain ⟨p0, p1, p2, p3⟩ := HB.out.grows (((Grows.rfl' _).drew').step hgq)
                have t5' := hgq.cell_some t5
                go_wp2_with ((go_at_call 16; refine (read_any _ _ _ _ _ _ _ zs _ HF.out (HR.out.grows (HG.out.drew'.step hgq))).mono ?_); rintro e wq' ⟨rfl, hgq'⟩)
                first | exact hKq _ (Grows.rfl' _) | exact hKq _ hgq'
              · kernel_rfl
            refine lex_end ?_
            intro w8 hg8 _
            go_wp2
            go_ret
            exact ⟨rfl, HG.out.drew'.step hg8⟩
      · have HIN2 := Lib.hid hin2
        clear hin2
        go_wp2_with fail
        refine (has_no _ _ _ _ _ _ _ HIN2.out).mono ?_
        rintro e w4 ⟨rfl, hg4⟩
        go_wp2_with fail
        go_ret
        exact ⟨rfl, HG.out.step hg4⟩
    · have HIN := Lib.hid hin
      clear hin
      go_wp2_with fail
      refine (has_no _ _ _ _ _ _ _ HIN.out).mono ?_
      rintro e w3 ⟨rfl, hg3⟩
      go_wp2_with fail
      go_ret
      exact ⟨rfl, HG.out.step hg3⟩
  · have HF := Lib.hid hf
    clear hf
    go_wp2_with fail
    refine (fine_no _ _ _ _ _ HF.out ha hb).mono ?_
    rintro e w2 ⟨rfl, hg2⟩
    go_wp2_with fail
    go_ret
    exact ⟨rfl, (HG.out.alloc' _).step hg2⟩

set_option linter.unusedVariables false
set_option maxRecDepth 100000 in
theorem lifted (os : Os) (started : os.Started) (H : Type) (enc : TypeId × Value → H) :
    ReturnsInHanded {} Try.checked os 5 .any (Rows.fnCMYKWriteReadSpec.pre6 enc Try.prog Try.f5 Rows.fnCMYKWriteReadRow.domain false) (Rows.fnCMYKWriteReadSpec.post enc Try.prog Try.f5 false true false false) := by
  refine returnsInHanded_of_change_sized (C := Try.checked) own started (by kernel_rfl) Try.func5
    (ChangeSpec.witness6 (enc := enc) (C := Try.checked) false ⟨#[], #[.agg #[.int .i64 0, .int .i64 0, .int .i64 0, .int .i64 0], .slice none 0 0, .int .i64 0, .int .i64 0, .agg #[.int .i64 0, .int .i64 0, .int .i64 0, .int .i64 0], .int .i64 0, .int .i64 0], []⟩ 8 (by kernel_rfl) (by kernel_rfl) (by kernel_rfl) (by kernel_rfl)) ?_
  intro W base args ds gs before hval0 hW hcnd hsz0 _
  have hval : ∀ (j : Nat) t v, Try.f5.params[j]? = some t → args[j]? = some v → Value.okWide Try.prog W .any base t v := hval0
  have hsz : (DataW.weightsEach Try.prog (Try.f5.params.toList ++ Rows.fnCMYKWriteReadSpec.plain.varTypes Try.prog) (ds ++ gs)).all (· ≤ reachBytes) = true := hsz0
  clear hsz0
  have hW' := hW
  obtain ⟨p, q, hA0, hV, rfl, hfz, hnd⟩ := hW
  have hA : DataW.TrodAll enc Try.prog W 0 (fun _ => true) true Try.f5.params.toList args.toList ds p := hA0
  rw [Try.params5] at hA hval hsz
  obtain ⟨v0, vs0, d0, ds0, p0, q0, hargs, rfl, rfl, h0, r0⟩ := trodAll_cons hA
  obtain ⟨v1, vs1, d1, ds1, p1, q1, rfl, rfl, rfl, h1, r1⟩ := trodAll_cons r0
  obtain ⟨v2, vs2, d2, ds2, p2, q2, rfl, rfl, rfl, h2, r2⟩ := trodAll_cons r1
  obtain ⟨v3, vs3, d3, ds3, p3, q3, rfl, rfl, rfl, h3, r3⟩ := trodAll_cons r2
  obtain ⟨v4, vs4, d4, ds4, p4, q4, rfl, rfl, rfl, h4, r4⟩ := trodAll_cons r3
  obtain ⟨v5, vs5, d5, ds5, p5, q5, rfl, rfl, rfl, h5, r5⟩ := trodAll_cons r4
  obtain ⟨v6, vs6, d6, ds6, p6, q6, rfl, rfl, rfl, h6, r6⟩ := trodAll_cons r5
  obtain ⟨rfl, rfl, rfl⟩ := trodAll_nil r6
  obtain rfl : args = #[v0, v1, v2, v3, v4, v5, v6] := by cases args; simp_all
  obtain ⟨rfl, rfl⟩ := trodVars_none hV
  have k0 := h0
  have lt0 : ∀ x ∈ p0, x.block < W.heap.size := by obtain ⟨m, hm⟩ := k0; exact DataW.trod_lt m _ _ _ hm
  have k1 := h1
  have lt1 : ∀ x ∈ p1, x.block < W.heap.size := by obtain ⟨m, hm⟩ := k1; exact DataW.trod_lt m _ _ _ hm
  have k2 := h2
  have lt2 : ∀ x ∈ p2, x.block < W.heap.size := by obtain ⟨m, hm⟩ := k2; exact DataW.trod_lt m _ _ _ hm
  have k3 := h3
  have lt3 : ∀ x ∈ p3, x.block < W.heap.size := by obtain ⟨m, hm⟩ := k3; exact DataW.trod_lt m _ _ _ hm
  have k4 := h4
  have lt4 : ∀ x ∈ p4, x.block < W.heap.size := by obtain ⟨m, hm⟩ := k4; exact DataW.trod_lt m _ _ _ hm
  have k5 := h5
  have lt5 : ∀ x ∈ p5, x.block < W.heap.size := by obtain ⟨m, hm⟩ := k5; exact DataW.trod_lt m _ _ _ hm
  have k6 := h6
  have lt6 : ∀ x ∈ p6, x.block < W.heap.size := by obtain ⟨m, hm⟩ := k6; exact DataW.trod_lt m _ _ _ hm
  obtain ⟨s0a, s0b, s0c, s0d, rfl, ⟨b0a, b0b, b0c, b0d⟩⟩ := open_four Try.underlying23 (by kernel_rfl) cells23 (hval 0 23 v0 rfl rfl) h0
  obtain ⟨z1, hz1⟩ := open_list (hval 1 24 v1 rfl rfl) h1 (fun el sp hd => by subst hd; exact sized_slice hsz (j := 1) (t := 24) (e := 3) rfl rfl Try.underlying24)
  obtain ⟨x2, rfl, he2, _, w2⟩ := open_int Try.underlying3 (hval 2 3 v2 rfl rfl) h2
  obtain ⟨x3, rfl, he3, _, w3⟩ := open_int Try.underlying3 (hval 3 3 v3 rfl rfl) h3
  obtain ⟨s4a, s4b, s4c, s4d, rfl, ⟨b4a, b4b, b4c, b4d⟩⟩ := open_four Try.underlying26 (by kernel_rfl) cells26 (hval 4 26 v4 rfl rfl) h4
  obtain ⟨x5, rfl, he5, _, w5⟩ := open_int Try.underlying3 (hval 5 3 v5 rfl rfl) h5
  obtain ⟨x6, rfl, he6, _, w6⟩ := open_int Try.underlying3 (hval 6 3 v6 rfl rfl) h6
  refine (walk s0a s0b s0c s0d v1 z1 x2 x3 s4a s4b s4c s4d x5 x6 W b0a b0b b0c b0d hz1 (bounds_i64 w2) (bounds_i64 w3) b4a b4b b4c b4d (bounds_i64 w5) (bounds_i64 w6)).mono fun e W' ⟨he, bel⟩ => ?_
  subst he
  exact ⟨_, rfl, _, _, _, [], _, [], hW', trodAll_mk1 (shut_bool Try.underlying4 _), (trodAll_cons_mk (Below.trod laidOut (by kernel_rfl) (of_decide_eq_true (by kernel_rfl)) k0 bel lt0) (trodAll_cons_mk (Below.trod laidOut (by kernel_rfl) (of_decide_eq_true (by kernel_rfl)) k1 bel lt1) (trodAll_cons_mk (Below.trod laidOut (by kernel_rfl) (of_decide_eq_true (by kernel_rfl)) k2 bel lt2) (trodAll_cons_mk (Below.trod laidOut (by kernel_rfl) (of_decide_eq_true (by kernel_rfl)) k3 bel lt3) (trodAll_cons_mk (Below.trod laidOut (by kernel_rfl) (of_decide_eq_true (by kernel_rfl)) k4 bel lt4) (trodAll_cons_mk (Below.trod laidOut (by kernel_rfl) (of_decide_eq_true (by kernel_rfl)) k5 bel lt5) (trodAll_cons_mk (Below.trod laidOut (by kernel_rfl) (of_decide_eq_true (by kernel_rfl)) k6 bel lt6) trodAll_mk0))))))), rfl, bel.frame _, fun h => by cases h⟩

theorem proved : Rows.FnCMYKWriteReadSaid :=
  OpenClaim.holds_of_wide 5 Try.f5 rfl rfl rfl rfl rfl rfl rfl ⟨rfl, rfl, rfl, rfl, rfl⟩ rfl rfl rfl rfl rfl (by kernel_rfl) Try.func5 (by kernel_rfl)
    (of_decide_eq_true (by kernel_rfl)) (by unfold Func.isWrapper; first | (rw [if_pos (by decide +kernel)]; kernel_rfl) | (rw [if_neg (by decide +kernel)]; exact ⟨rfl, rfl⟩))
    (fun os started H enc _ => lifted os started H enc)
#print axioms proved
end Go.Proofs.Ytchpneinjndlpaa.lawCMYKWriteRead

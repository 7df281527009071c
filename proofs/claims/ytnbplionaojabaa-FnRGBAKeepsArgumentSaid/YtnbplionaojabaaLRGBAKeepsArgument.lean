/-
  FnRGBAKeepsArgument returns true for every input, and each argument reads afterwards as before. Conditions: none beyond the row's own.
-/
import Derived.Test.YtnbplionaojabaaRun
import Derived.Test.YtnbplionaojabaaCopy
import Derived.Test.YtnbplionaojabaaLift
import Derived.Deep.Cut
namespace Go.Proofs.Ytnbplionaojabaa.lawRGBAKeepsArgument
open Go.ChangeShapes Go.WideShapes Go.ChangeAt Go.RowKit
set_option linter.unusedVariables false

theorem own_rd {W w w0 : World} {v v0 : Value} {xs : List Int} (h : OwnI W w v xs) (h0 : RdI w0 v0 xs) : RdI w v xs := by
  obtain ⟨A, c, rfl, _, _, h3, h4, _⟩ := h0
  exact h.rd h3 h4

set_option maxRecDepth 20000 in
set_option maxHeartbeats 4000000 in
theorem walk (a b c d : Int) (vv : Value) (zs : List Int) (x y n0 n1 n2 n3 : Int) (w : World) (ha : I64 a) (hb : I64 b) (hc : I64 c) (hd : I64 d) (h : RdI w vv zs) (hx : I64 x) (hy : I64 y) (hn0 : I64 n0) (hn1 : I64 n1) (hn2 : I64 n2) (hn3 : I64 n3) :
    Calls Try.prog 8 #[box4 a b c d, vv, .int .i64 x, .int .i64 y, box4 n0 n1 n2 n3] w fun e w' => e = .returned (.bool true) ∧ Grows w w' := by
  have H1 := Lib.hid h
  obtain ⟨A1, c1, rfl, _⟩ := h
  go_enter Try.func8, Try.ntmps8
  by_cases hf : Fine a b c d
  · have HF := Lib.hid hf
    have htl := total_le (k := 4) (by omega) hf
    clear hf
    go_wp2_with fail
    refine (fine_yes _ _ _ _ _ HF.out).mono ?_
    rintro e w1 ⟨rfl, hg1⟩
    obtain ⟨hcq, _⟩ := hg1.cells
    have HN : Hid (BoxAt w1 (w.heap.size + 1) n0 n1 n2 n3) := ⟨hg1.cell_some (cell_top (by simp) rfl), hg1.cell_some (cell_top (by simp) rfl), hg1.cell_some (cell_top (by simp) rfl), hg1.cell_some (cell_top (by simp) rfl)⟩
    have HG : Hid (Grows w w1) := (((Grows.rfl' w).alloc' _).alloc' _).step hg1
    clear hg1
    go_wp2_with fail
    refine (asRect_any _ _ _ _ _).mono ?_
    rintro e w2 ⟨rfl, hg2⟩
    replace HG := Lib.hid (HG.out.step hg2)
    replace HN := Lib.hid (HN.out.grows hg2)
    clear hg2 hcq
    go_upto_region 4 with fail
    have HB : Hid (BoxAt (w2.alloc (.cells #[.int .i64 a, .int .i64 b, .int .i64 c, .int .i64 d] 26)) w2.heap.size a b c d) := ⟨cell_top rfl rfl, cell_top rfl rfl, cell_top rfl rfl, cell_top rfl rfl⟩
    replace HG := Lib.hid (HG.out.alloc' (.cells #[.int .i64 a, .int .i64 b, .int .i64 c, .int .i64 d] 26))
    replace HN := Lib.hid (HN.out.grows ((Grows.rfl' _).alloc' (.cells #[.int .i64 a, .int .i64 b, .int .i64 c, .int .i64 d] 26)))
    generalize w2.alloc (.cells #[.int .i64 a, .int .i64 b, .int .i64 c, .int .i64 d] 26) = w3 at *
    generalize w2.heap.size = bx at *
    go_wp2_with (at_builtin; refine copy_wp rfl _ _ rfl w3 _ zs rfl rfl (H1.out.grows HG.out) (Grows.rfl' _) ?_; intro v1 w4 o1 g1
                 have O1 := Lib.hid (own_rd o1 H1.out)
                 obtain ⟨B1, e1, rfl⟩ := o1.form
                 replace HB := Lib.hid (HB.out.grows g1)
                 replace HN := Lib.hid (HN.out.grows g1)
                 replace HG := Lib.hid (HG.out.step g1)
                 clear o1 g1)
    obtain ⟨F, hFF⟩ : ∃ F, F = bytesOf (total a b c d 4) (wr a b c d 4 (byteAt zs) x y [n0 % 256, n1 % 256, n2 % 256, n3 % 256]) := ⟨_, rfl⟩
    have HFL : Hid (F.length ≤ 4000000 ∧ ∀ m ∈ F, -9223372036854775808 ≤ m ∧ m ≤ 9223372036854775807) := by
      rw [hFF]
      exact ⟨by rw [bytesOf_length]; omega, bytesOf_in fun i _ => by have := wr_in255 (a := a) (b := b) (c := c) (d := d) (x := x) (y := y) (k := 4) (byteAt_in zs) (ns := [n0 % 256, n1 % 256, n2 % 256, n3 % 256]) (by intro m hm; simp at hm; omega) i; omega⟩
    have HWR : Hid (∀ W, Grows w4 W → Calls Try.prog 23 #[box4 a b c d, .slice B1 zs.length e1, .int .i64 x, .int .i64 y, box4 n0 n1 n2 n3] W (NewPic a b c d (sd a c 4) F W)) := by
      intro W hW
      rw [hFF]
      exact write_any a b c d x y n0 n1 n2 n3 _ zs W HF.out (O1.out.grows hW)
    have HRN : Hid (∀ W vs, Grows w4 W → RdS W vs [(1, x, y, (n0, n1, n2, n3), (0, 0, 0, 0))] → Calls Try.prog 14 #[box4 a b c d, .slice B1 zs.length e1, vs] W fun e w' => ∃ v, e = .returned v ∧ Grows W w' ∧ TupRun a b c d (sd a c 4) [] F W v w') := by
      intro W vs hW hs
      refine (implRun a b c d _ zs vs _ W HF.out (O1.out.grows hW) hs).mono ?_
      rintro e w' ⟨vc, vo, vp, offs, rfl, hC, hO, hP, _⟩
      have eF : bytesOf (total a b c d 4) (runF a b c d 4 (byteAt zs) [(1, x, y, (n0, n1, n2, n3), (0, 0, 0, 0))]).2.1 = F := by
        rw [hFF, ← putV_whole]
        rfl
      rw [eF] at hP
      exact ⟨_, rfl, hC.2, vc, vo, vp, rfl, hC, hP⟩
    clear hFF
    go_upto_region 5 with fail
    apply wp_region_lex_lit 8 (by kernel_rfl) (by kernel_rfl)
    iterate 6
      apply lex_pin
      · intro wq hgq hdq Kq hKq
        obtain ⟨p0, p1, p2, p3⟩ := HB.out.grows ((Grows.rfl' _).drew'.step hgq)
        obtain ⟨n0', n1', n2', n3'⟩ := HN.out.grows ((Grows.rfl' _).drew'.step hgq)
        go_wp2_with ((go_at_call 21; refine (asColor_any _ _ _ _ _).mono ?_); rintro e wq' ⟨rfl, hgq'⟩)
        first | exact hKq _ (Grows.rfl' _) | exact hKq _ hgq'
      · kernel_rfl
    apply lex_any (OwnPic a b c d (sd a c 4) F w4) OwnPic.keep
    · intro wq hgq hdq Kq hKq
      go_wp2_with fail
      refine ((HWR.out _ ((Grows.rfl' _).drew'.step hgq)).mono fun e w' h => NewPic.own h ((Grows.rfl' w4).drew'.step hgq)).mono ?_
      rintro e wq' ⟨v', rfl, hgq', hp⟩
      go_wp2_with fail
      exact hKq _ _ hgq' hp
    intro vb
    simp only [Act.put, List.setIfInBounds_toArray, List.set_cons_succ, List.set_cons_zero]
    apply lex_any (ZeroBox w4) ZeroBox.keep
    · intro wq hgq hdq Kq hKq
      have hsz4 : w4.heap.size ≤ wq.heap.size := hgq.size
      go_wp2
      exact hKq _ _ ((Grows.rfl' _).alloc' _) ⟨wq.heap.size, rfl, hsz4, heap_alloc_new _ _⟩
    intro vx
    simp only [Act.put, List.setIfInBounds_toArray, List.set_cons_succ, List.set_cons_zero]
    refine lex_end ?_
    intro w5 hg5 hd5
    obtain ⟨p, rfl, ho⟩ := hd5 6 _ rfl
    obtain ⟨pbx, rfl, hpb, hbox⟩ := hd5 7 _ rfl
    clear hd5
    obtain ⟨A', cc', rfl⟩ := ho.form
    obtain ⟨e0, e1, e2, e3, e4, e5⟩ := block_cells hbox
    have z5 := block_frozen hbox
    have HX : Hid (PicAt (stored w5 pbx (.int .i64 (a)) (.int .i64 (b)) (.int .i64 (c)) (.int .i64 (d)) (.int .i64 (sd a c 4)) (.slice A' (F).length cc')) pbx (a) (b) (c) (d) (sd a c 4) (.slice A' (F).length cc')) := stored_block hbox (.int .i64 (a)) (.int .i64 (b)) (.int .i64 (c)) (.int .i64 (d)) (.int .i64 (sd a c 4)) (.slice A' (F).length cc')
    have HO5 := Lib.hid (stored_own ho hbox hpb (.int .i64 (a)) (.int .i64 (b)) (.int .i64 (c)) (.int .i64 (d)) (.int .i64 (sd a c 4)) (.slice A' (F).length cc'))
    have HG5 : Hid (Grows w4 (stored w5 pbx (.int .i64 (a)) (.int .i64 (b)) (.int .i64 (c)) (.int .i64 (d)) (.int .i64 (sd a c 4)) (.slice A' (F).length cc'))) := stored_grows ((Grows.rfl' w4).drew'.step hg5) hpb _ _ _ _ _ _
    have HCH : Hid (((((((w5.setCell ⟨pbx, 0, none⟩ (.int .i64 (a))).setCell ⟨pbx, 1, none⟩ (.int .i64 (b))).setCell ⟨pbx, 2, none⟩ (.int .i64 (c))).setCell ⟨pbx, 3, none⟩ (.int .i64 (d))).setCell ⟨pbx, 4, none⟩ (.int .i64 (sd a c 4))).setCell ⟨pbx, 5, none⟩ (.slice A' (F).length cc')) = stored w5 pbx (.int .i64 (a)) (.int .i64 (b)) (.int .i64 (c)) (.int .i64 (d)) (.int .i64 (sd a c 4)) (.slice A' (F).length cc')) := rfl
    clear ho hbox hg5
    go_upto_region 6 with fail
    rw [HCH.out]
    clear HCH z5 e0 e1 e2 e3 e4 e5
    generalize stored w5 pbx (.int .i64 (a)) (.int .i64 (b)) (.int .i64 (c)) (.int .i64 (d)) (.int .i64 (sd a c 4)) (.slice A' (F).length cc') = w6 at *
    have HPR : Hid (RdI w6 (.slice A' F.length cc') F) := HO5.out.rd (by have := HFL.out.1; omega) HFL.out.2
    replace HB := Lib.hid (HB.out.grows HG5.out)
    replace HN := Lib.hid (HN.out.grows HG5.out)
    replace HG := Lib.hid (HG.out.step HG5.out)
    replace O1 := Lib.hid (O1.out.grows HG5.out)
    replace HRN := Lib.hid (fun W vs hW hs => HRN.out W vs (HG5.out.step hW) hs)
    clear HO5 HG5 hpb HWR
    have HSW : Hid (∀ s ∈ [((1 : Int), x, y, (n0, n1, n2, n3), ((0 : Int), (0 : Int), (0 : Int), (0 : Int)))], ∀ m ∈ nums s, -9223372036854775808 ≤ m ∧ m ≤ 9223372036854775807) := by unfold I64 at hx hy hn0 hn1 hn2 hn3; intro s hs m hm; simp only [List.mem_singleton] at hs; subst hs; simp only [nums, List.mem_cons, List.not_mem_nil, or_false] at hm; omega
    apply wp_region_lex_lit 16 (by kernel_rfl) (by kernel_rfl)
    iterate 7
      apply lex_pin
      · intro wq hgq hdq Kq hKq
        obtain ⟨p0, p1, p2, p3⟩ := HB.out.grows ((Grows.rfl' _).drew'.step hgq)
        obtain ⟨n0', n1', n2', n3'⟩ := HN.out.grows ((Grows.rfl' _).drew'.step hgq)
        go_wp2_with ((go_at_call 21; refine (asColor_any _ _ _ _ _).mono ?_); rintro e wq' ⟨rfl, hgq'⟩)
        first | exact hKq _ (Grows.rfl' _) | exact hKq _ hgq'
      · kernel_rfl
    apply lex_any (fun v wx => RdS wx v [(1, x, y, (n0, n1, n2, n3), (0, 0, 0, 0))]) (fun v x y hg h => h.grows hg)
    · intro wq hgq hdq Kq hKq
      go_wp2
      exact hKq _ _ ((Grows.rfl' _).alloc' _) (RdS.lit (ss := [(1, x, y, (n0, n1, n2, n3), (0, 0, 0, 0))]) (by simp) HSW.out)
    intro vst
    simp only [Act.put, List.setIfInBounds_toArray, List.set_cons_succ, List.set_cons_zero]
    apply lex_any (TupRun a b c d (sd a c 4) ([]) (F) w6) TupRun.keep
    · intro wq hgq hdq Kq hKq
      have hst := hdq 7 _ rfl (by kernel_rfl)
      go_wp2_with fail
      refine (HRN.out _ _ ((Grows.rfl' _).drew'.step hgq) hst).mono ?_
      rintro e wq' ⟨v', rfl, hgq', hp⟩
      have HTP := Lib.hid (And.intro hgq' (hp.base ((Grows.rfl' w6).drew'.step hgq)))
      clear hgq' hp hst
      go_wp2_with fail
      exact hKq _ _ HTP.out.1 HTP.out.2
    intro vt
    simp only [Act.put, List.setIfInBounds_toArray, List.set_cons_succ, List.set_cons_zero]
    apply lex_any (TupRun a b c d (sd a c 4) ([]) (F) w6) TupRun.keep
    · intro wq hgq hdq Kq hKq
      have hst := Lib.hid (hdq 8 _ rfl (by kernel_rfl))
      go_wp2
      exact hKq _ _ (Grows.rfl' _) hst.out
    intro vm
    simp only [Act.put, List.setIfInBounds_toArray, List.set_cons_succ, List.set_cons_zero]
    apply lex_any (fun v w => OwnC w6 w v ([])) (fun v w w' hg h => h.later hg)
    · intro wq hgq hdq Kq hKq
      obtain ⟨vc, vo, vp, rfl, hC, hP⟩ := hdq 9 _ rfl (by kernel_rfl)
      have HH := Lib.hid hC
      clear hC hP
      go_wp2
      exact hKq _ _ (Grows.rfl' _) HH.out
    intro vc0
    simp only [Act.put, List.setIfInBounds_toArray, List.set_cons_succ, List.set_cons_zero]
    apply lex_any (fun v w => True) (fun v w w' hg h => h)
    · intro wq hgq hdq Kq hKq
      obtain ⟨vc, vo, vp, rfl, hC, hP⟩ := hdq 9 _ rfl (by kernel_rfl)
      clear hC hP
      go_wp2
      exact hKq _ _ (Grows.rfl' _) trivial
    intro vo0
    simp only [Act.put, List.setIfInBounds_toArray, List.set_cons_succ, List.set_cons_zero]
    apply lex_any (OwnPic a b c d (sd a c 4) (F) w6) OwnPic.keep
    · intro wq hgq hdq Kq hKq
      obtain ⟨vc, vo, vp, rfl, hC, hP⟩ := hdq 9 _ rfl (by kernel_rfl)
      have HH := Lib.hid hP
      clear hC hP
      go_wp2
      exact hKq _ _ (Grows.rfl' _) ⟨vp, rfl, HH.out⟩
    intro vp0
    simp only [Act.put, List.setIfInBounds_toArray, List.set_cons_succ, List.set_cons_zero]
    apply lex_any (ZeroBox w6) ZeroBox.keep
    · intro wq hgq hdq Kq hKq
      have hsz4 : w6.heap.size ≤ wq.heap.size := hgq.size
      go_wp2
      exact hKq _ _ ((Grows.rfl' _).alloc' _) ⟨wq.heap.size, rfl, hsz4, heap_alloc_new _ _⟩
    intro vx0
    simp only [Act.put, List.setIfInBounds_toArray, List.set_cons_succ, List.set_cons_zero]
    apply lex_any (fun v w => OwnC w6 w v ([])) (fun v w w' hg h => h.later hg)
    · intro wq hgq hdq Kq hKq
      have HH := Lib.hid (hdq 10 _ rfl (by kernel_rfl))
      clear hdq
      go_wp2
      exact hKq _ _ (Grows.rfl' _) HH.out
    intro vc1
    simp only [Act.put, List.setIfInBounds_toArray, List.set_cons_succ, List.set_cons_zero]
    apply lex_any (fun v w => True) (fun v w w' hg h => h)
    · intro wq hgq hdq Kq hKq
      clear hdq
      go_wp2
      exact hKq _ _ (Grows.rfl' _) trivial
    intro vo1
    simp only [Act.put, List.setIfInBounds_toArray, List.set_cons_succ, List.set_cons_zero]
    refine lex_end ?_
    intro w7 hg7 hd7
    obtain ⟨vp, rfl, ho⟩ := hd7 12 _ rfl
    obtain ⟨pbx2, rfl, hpb2, hbox⟩ := hd7 13 _ rfl
    have hoc := hd7 14 _ rfl
    clear hd7
    obtain ⟨C2, k2, rfl⟩ := ho.form
    obtain ⟨C3, k3, rfl⟩ := hoc.form
    obtain ⟨e0, e1, e2, e3, e4, e5⟩ := block_cells hbox
    have z5 := block_frozen hbox
    have HX2 : Hid (PicAt (stored w7 pbx2 (.int .i64 a) (.int .i64 b) (.int .i64 c) (.int .i64 d) (.int .i64 (sd a c 4)) (.slice C2 (F).length k2)) pbx2 a b c d (sd a c 4) (.slice C2 (F).length k2)) := stored_block hbox (.int .i64 a) (.int .i64 b) (.int .i64 c) (.int .i64 d) (.int .i64 (sd a c 4)) (.slice C2 (F).length k2)
    have HO8 := Lib.hid (stored_own ho hbox hpb2 (.int .i64 a) (.int .i64 b) (.int .i64 c) (.int .i64 d) (.int .i64 (sd a c 4)) (.slice C2 (F).length k2))
    have HC8 := Lib.hid (stored_ownC hoc hbox hpb2 (.int .i64 a) (.int .i64 b) (.int .i64 c) (.int .i64 d) (.int .i64 (sd a c 4)) (.slice C2 (F).length k2))
    have HG8 : Hid (Grows w6 (stored w7 pbx2 (.int .i64 a) (.int .i64 b) (.int .i64 c) (.int .i64 d) (.int .i64 (sd a c 4)) (.slice C2 (F).length k2))) := stored_grows ((Grows.rfl' w6).drew'.step hg7) hpb2 _ _ _ _ _ _
    have HCH : Hid (((((((w7.setCell ⟨pbx2, 0, none⟩ (.int .i64 a)).setCell ⟨pbx2, 1, none⟩ (.int .i64 b)).setCell ⟨pbx2, 2, none⟩ (.int .i64 c)).setCell ⟨pbx2, 3, none⟩ (.int .i64 d)).setCell ⟨pbx2, 4, none⟩ (.int .i64 (sd a c 4))).setCell ⟨pbx2, 5, none⟩ (.slice C2 (F).length k2)) = stored w7 pbx2 (.int .i64 a) (.int .i64 b) (.int .i64 c) (.int .i64 d) (.int .i64 (sd a c 4)) (.slice C2 (F).length k2)) := rfl
    clear ho hoc hbox hg7
    go_upto_region 7 with fail
    rw [HCH.out]
    clear HCH z5 e0 e1 e2 e3 e4 e5
    generalize stored w7 pbx2 (.int .i64 a) (.int .i64 b) (.int .i64 c) (.int .i64 d) (.int .i64 (sd a c 4)) (.slice C2 (F).length k2) = w8 at *
    have HP7 : Hid (RdI w8 (.slice C2 F.length k2) F) := HO8.out.rd (by have := HFL.out.1; omega) HFL.out.2
    replace HB := Lib.hid (HB.out.grows HG8.out)
    replace HG := Lib.hid (HG.out.step HG8.out)
    replace O1 := Lib.hid (O1.out.grows HG8.out)
    replace HX := Lib.hid (HX.out.grows HG8.out)
    replace HPR := Lib.hid (HPR.out.grows HG8.out)
    clear HN HRN HO8 HC8 HG8
    go_wp2_with fail
    refine (sameInts_yes _ _ zs _ O1.out (H1.out.grows HG.out)).mono ?_
    rintro e w9 ⟨rfl, g9⟩
    obtain ⟨p0, p1, p2, p3⟩ := HB.out.grows g9
    obtain ⟨t0, t1, t2, t3, t4, t5⟩ := (HX.out.grows g9).cells
    obtain ⟨u0, u1, u2, u3, u4, u5⟩ := (HX2.out.grows g9).cells
    have haa : (a == a) = true := by simp
    have hbb : (b == b) = true := by simp
    have hcc : (c == c) = true := by simp
    have hdd : (d == d) = true := by simp
    have HG9 := Lib.hid (HG.out.step g9)
    have HP1 : Hid (IsPic a b c d (sd a c 4) F (.agg #[.int .i64 a, .int .i64 b, .int .i64 c, .int .i64 d, .int .i64 (sd a c 4), .slice A' F.length cc']) w9) := ⟨_, rfl, HPR.out.grows g9⟩
    have HP2 : Hid (IsPic a b c d (sd a c 4) F (.agg #[.int .i64 a, .int .i64 b, .int .i64 c, .int .i64 d, .int .i64 (sd a c 4), .slice C2 F.length k2]) w9) := ⟨_, rfl, HP7.out.grows g9⟩
    clear g9
    go_wp2_with fail
    refine (samePicture_yes a b c d (sd a c 4) _ _ F w9 HP1.out HP2.out).mono ?_
    rintro e w10 ⟨rfl, g10⟩
    go_wp2_with fail
    go_ret
    exact ⟨rfl, HG9.out.step g10⟩
  · have HF := Lib.hid hf
    clear hf
    go_wp2_with fail
    refine (fine_no _ _ _ _ _ HF.out ha hb).mono ?_
    rintro e w1 ⟨rfl, hg1⟩
    go_wp2_with fail
    go_ret
    exact ⟨rfl, (((Grows.rfl' w).alloc' _).alloc' _).step hg1⟩

set_option linter.unusedVariables false
set_option maxRecDepth 100000 in
theorem lifted (os : Os) (started : os.Started) (H : Type) (enc : TypeId × Value → H) :
    ReturnsInHanded {} Try.checked os 8 .any (Rows.fnRGBAKeepsArgumentSpec.pre6 enc Try.prog Try.f8 Rows.fnRGBAKeepsArgumentRow.domain false) (Rows.fnRGBAKeepsArgumentSpec.post enc Try.prog Try.f8 false true false false) := by
  refine returnsInHanded_of_change_sized (C := Try.checked) own started (by kernel_rfl) Try.func8
    (ChangeSpec.witness6 (enc := enc) (C := Try.checked) false ⟨#[], #[.agg #[.int .i64 0, .int .i64 0, .int .i64 0, .int .i64 0], .slice none 0 0, .int .i64 0, .int .i64 0, .agg #[.int .i64 0, .int .i64 0, .int .i64 0, .int .i64 0]], []⟩ 8 (by kernel_rfl) (by kernel_rfl) (by kernel_rfl) (by kernel_rfl)) ?_
  intro W base args ds gs before hval0 hW hcnd hsz0 _
  have hval : ∀ (j : Nat) t v, Try.f8.params[j]? = some t → args[j]? = some v → Value.okWide Try.prog W .any base t v := hval0
  have hsz : (DataW.weightsEach Try.prog (Try.f8.params.toList ++ Rows.fnRGBAKeepsArgumentSpec.plain.varTypes Try.prog) (ds ++ gs)).all (· ≤ reachBytes) = true := hsz0
  clear hsz0
  have hW' := hW
  obtain ⟨p, q, hA0, hV, rfl, hfz, hnd⟩ := hW
  have hA : DataW.TrodAll enc Try.prog W 0 (fun _ => true) true Try.f8.params.toList args.toList ds p := hA0
  rw [Try.params8] at hA hval hsz
  obtain ⟨v0, vs0, d0, ds0, p0, q0, hargs, rfl, rfl, h0, r0⟩ := trodAll_cons hA
  obtain ⟨v1, vs1, d1, ds1, p1, q1, rfl, rfl, rfl, h1, r1⟩ := trodAll_cons r0
  obtain ⟨v2, vs2, d2, ds2, p2, q2, rfl, rfl, rfl, h2, r2⟩ := trodAll_cons r1
  obtain ⟨v3, vs3, d3, ds3, p3, q3, rfl, rfl, rfl, h3, r3⟩ := trodAll_cons r2
  obtain ⟨v4, vs4, d4, ds4, p4, q4, rfl, rfl, rfl, h4, r4⟩ := trodAll_cons r3
  obtain ⟨rfl, rfl, rfl⟩ := trodAll_nil r4
  obtain rfl : args = #[v0, v1, v2, v3, v4] := by cases args; simp_all
  obtain ⟨rfl, rfl⟩ := trodVars_none hV
  have k0 := h0
  have lt0 : ∀ x ∈ p0, x.block < W.heap.size := by obtain ⟨m, hm⟩ := k0; exact DataW.trod_lt m _ _ _ hm
  have k1 := h1
  have lt1 : ∀ x ∈ p1, x.block < W.heap.size := by obtain ⟨m, hm⟩ := k1; exact DataW.trod_lt m _ _ _ hm
  have k2 := h2
  have lt2 : ∀ x ∈ p2, x.block < W.heap.size := by obtain ⟨m, hm⟩ := k2; exact DataW.trod_lt m _ _ _ hm
  have k3 := h3
  have lt3 : ∀ x ∈ p3, x.block < W.heap.size := by obtain ⟨m, hm⟩ := k3; exact DataW.trod_lt m _ _ _ hm
  have k4 := h4
  have lt4 : ∀ x ∈ p4, x.block < W.heap.size := by obtain ⟨m, hm⟩ := k4; exact DataW.trod_lt m _ _ _ hm
  obtain ⟨s0a, s0b, s0c, s0d, rfl, ⟨b0a, b0b, b0c, b0d⟩⟩ := open_four Try.underlying23 (by kernel_rfl) cells23 (hval 0 23 v0 rfl rfl) h0
  obtain ⟨z1, hz1⟩ := open_list (hval 1 24 v1 rfl rfl) h1 (fun el sp hd => by subst hd; exact sized_slice hsz (j := 1) (t := 24) (e := 3) rfl rfl Try.underlying24)
  obtain ⟨x2, rfl, he2, _, w2⟩ := open_int Try.underlying3 (hval 2 3 v2 rfl rfl) h2
  obtain ⟨x3, rfl, he3, _, w3⟩ := open_int Try.underlying3 (hval 3 3 v3 rfl rfl) h3
  obtain ⟨s4a, s4b, s4c, s4d, rfl, ⟨b4a, b4b, b4c, b4d⟩⟩ := open_four Try.underlying42 (by kernel_rfl) cells42 (hval 4 42 v4 rfl rfl) h4
  refine (walk s0a s0b s0c s0d v1 z1 x2 x3 s4a s4b s4c s4d W b0a b0b b0c b0d hz1 (bounds_i64 w2) (bounds_i64 w3) b4a b4b b4c b4d).mono fun e W' ⟨he, bel⟩ => ?_
  subst he
  exact ⟨_, rfl, _, _, _, [], _, [], hW', trodAll_mk1 (shut_bool Try.underlying4 _), (trodAll_cons_mk (Below.trod laidOut (by kernel_rfl) (of_decide_eq_true (by kernel_rfl)) k0 bel lt0) (trodAll_cons_mk (Below.trod laidOut (by kernel_rfl) (of_decide_eq_true (by kernel_rfl)) k1 bel lt1) (trodAll_cons_mk (Below.trod laidOut (by kernel_rfl) (of_decide_eq_true (by kernel_rfl)) k2 bel lt2) (trodAll_cons_mk (Below.trod laidOut (by kernel_rfl) (of_decide_eq_true (by kernel_rfl)) k3 bel lt3) (trodAll_cons_mk (Below.trod laidOut (by kernel_rfl) (of_decide_eq_true (by kernel_rfl)) k4 bel lt4) trodAll_mk0))))), rfl, bel.frame _, fun h => by cases h⟩

theorem proved : Rows.FnRGBAKeepsArgumentSaid :=
  OpenClaim.holds_of_wide 8 Try.f8 rfl rfl rfl rfl rfl rfl rfl ⟨rfl, rfl, rfl, rfl, rfl⟩ rfl rfl rfl rfl rfl (by kernel_rfl) Try.func8 (by kernel_rfl)
    (of_decide_eq_true (by kernel_rfl)) (by unfold Func.isWrapper; first | (rw [if_pos (by decide +kernel)]; kernel_rfl) | (rw [if_neg (by decide +kernel)]; exact ⟨rfl, rfl⟩))
    (fun os started H enc _ => lifted os started H enc)
#print axioms proved
end Go.Proofs.Ytnbplionaojabaa.lawRGBAKeepsArgument

/-
  FnYCbCrKeepsArgument returns true for every input, and each argument reads afterwards as before. Conditions: none beyond the row's own.
-/
import Derived.Test.YtbmpjehahimelaaYSubI
import Derived.Test.YtbmpjehahimelaaCopy
import Derived.Test.YtbmpjehahimelaaSame
import Derived.Test.YtbmpjehahimelaaLift
import Derived.Deep.Cut
namespace Go.Proofs.Ytbmpjehahimelaa.lawYCbCrKeepsArgument
open Go.ChangeShapes Go.WideShapes Go.ChangeAt Go.RowKit
set_option linter.unusedVariables false

theorem own_rd {W w w0 : World} {v v0 : Value} {xs : List Int} (h : OwnI W w v xs) (h0 : RdI w0 v0 xs) : RdI w v xs := by
  obtain ⟨A, c, rfl, _, _, h3, h4, _⟩ := h0
  exact h.rd h3 h4
theorem sameInts_yes (v1 v2 : Value) (xs : List Int) (w : World) (h1 : RdI w v1 xs) (h2 : RdI w v2 xs) :
    Calls Try.prog 16 #[v1, v2] w fun e w' => e = .returned (.bool true) ∧ Grows w w' := by
  refine (sameInts_any v1 v2 xs xs w h1 h2).mono ?_
  rintro e w' ⟨rfl, hg⟩
  exact ⟨by simp, hg⟩

/-- What a part is, whatever is asked for. -/
theorem sub_some (a b c d r a' b' c' d' : Int) (vy vb vr : Value) (zy zb zr : List Int) (w : World) (h : PlainY a b c d r) (h1 : RdI w vy zy) (h2 : RdI w vb zb) (h3 : RdI w vr zr) :
    ∃ (A B C D s1 s2 : Int) (L1 L2 L3 : List Int), ∀ W, Grows w W → Calls Try.prog 10 #[box4 a b c d, .int .i64 r, vy, vb, vr, box4 a' b' c' d'] W (NewPl A B C D s1 s2 r L1 L2 L3 W) := by
  by_cases hm : Meet a' b' c' d' a b c d
  · exact ⟨_, _, _, _, _, _, _, _, _, fun W hW => implSubY_yes a b c d r a' b' c' d' _ _ _ zy zb zr W h (h1.grows hW) (h2.grows hW) (h3.grows hW) hm⟩
  · exact ⟨_, _, _, _, _, _, _, _, _, fun W hW => implSubY_no a b c d r a' b' c' d' _ _ _ zy zb zr W h (h1.grows hW) (h2.grows hW) (h3.grows hW) hm⟩
theorem sub_self (a b c d r : Int) (vy vb vr : Value) (zy zb zr : List Int) (w : World) (h : PlainY a b c d r) (h1 : RdI w vy zy) (h2 : RdI w vb zb) (h3 : RdI w vr zr) :
    ∃ (s1 s2 : Int) (L1 L2 L3 : List Int), Calls Try.prog 10 #[box4 a b c d, .int .i64 r, vy, vb, vr, box4 a b c d] w (NewPl a b c d s1 s2 r L1 L2 L3 w) := by
  have hm : Meet a b c d a b c d := by obtain ⟨_, _, ⟨g3, g4⟩, _⟩ := h; unfold Meet; omega
  have := implSubY_yes a b c d r a b c d _ _ _ zy zb zr w h h1 h2 h3 hm
  rw [Int.max_self, Int.max_self, Int.min_self, Int.min_self] at this
  exact ⟨_, _, _, _, _, this⟩

set_option maxRecDepth 20000 in
set_option maxHeartbeats 4000000 in
theorem walk (a b c d r : Int) (vy : Value) (ys : List Int) (vb : Value) (bs : List Int) (vr : Value) (rs : List Int) (a' b' c' d' : Int) (w : World) (ha : I64 a) (hb : I64 b) (hc : I64 c) (hd : I64 d) (hr : I64 r) (h1 : RdI w vy ys) (h2 : RdI w vb bs) (h3 : RdI w vr rs) (ha' : I64 a') (hb' : I64 b') (hc' : I64 c') (hd' : I64 d') :
    Calls Try.prog 6 #[box4 a b c d, .int .i64 r, vy, vb, vr, box4 a' b' c' d'] w fun e w' => e = .returned (.bool true) ∧ Grows w w' := by
  have H1 := Lib.hid h1
  have H2 := Lib.hid h2
  have H3 := Lib.hid h3
  obtain ⟨A1, c1, rfl, _⟩ := h1
  obtain ⟨A2, c2, rfl, _⟩ := h2
  obtain ⟨A3, c3, rfl, _⟩ := h3
  go_enter Try.func6, Try.ntmps6
  by_cases hf : PlainY a b c d r
  · have HP := Lib.hid hf
    clear hf
    go_wp2_with fail
    refine (plainY_yes _ _ _ _ _ _ HP.out).mono ?_
    rintro e w1 ⟨rfl, hg1⟩
    have HR0 : Hid (BoxAt w1 w.heap.size a b c d) := ⟨hg1.cell_some (by simp), hg1.cell_some (by simp), hg1.cell_some (by simp), hg1.cell_some (by simp)⟩
    have HN : Hid (BoxAt w1 (w.heap.size + 1) a' b' c' d') := ⟨hg1.cell_some (cell_top (by simp) rfl), hg1.cell_some (cell_top (by simp) rfl), hg1.cell_some (cell_top (by simp) rfl), hg1.cell_some (cell_top (by simp) rfl)⟩
    have HG : Hid (Grows w w1) := (((Grows.rfl' w).alloc' _).alloc' _).step hg1
    clear hg1
    obtain ⟨q0, q1, q2, q3⟩ := HR0.out
    go_wp2_with fail
    refine (asRect_any _ _ _ _ _).mono ?_
    rintro e w2 ⟨rfl, hg2⟩
    replace HN := Lib.hid (HN.out.grows hg2)
    replace HG := Lib.hid (HG.out.step hg2)
    clear hg2 q0 q1 q2 q3 HR0
    go_upto_region 4 with fail
    have HB : Hid (BoxAt (w2.alloc (.cells #[.int .i64 a, .int .i64 b, .int .i64 c, .int .i64 d] 25)) w2.heap.size a b c d) := ⟨cell_top rfl rfl, cell_top rfl rfl, cell_top rfl rfl, cell_top rfl rfl⟩
    have hgw : Grows w2 (w2.alloc (.cells #[.int .i64 a, .int .i64 b, .int .i64 c, .int .i64 d] 25)) := (Grows.rfl' _).alloc' _
    replace HN := Lib.hid (HN.out.grows hgw)
    replace HG := Lib.hid (HG.out.step hgw)
    clear hgw
    generalize w2.alloc (.cells #[.int .i64 a, .int .i64 b, .int .i64 c, .int .i64 d] 25) = w3 at *
    generalize w2.heap.size = bx at *
    go_wp2_with (at_builtin; first
      | (refine copy_wp rfl _ _ rfl w3 _ ys rfl rfl (H1.out.grows HG.out) (Grows.rfl' _) ?_; intro v1 w4 o1 g1; have O1 := Lib.hid o1; have G1 := Lib.hid g1; obtain ⟨B1, e1, rfl⟩ := o1.form; clear o1 g1)
      | (refine copy_wp rfl _ _ rfl w3 _ bs rfl rfl (H2.out.grows (HG.out.step G1.out)) G1.out ?_; intro v2 w5 o2 g2; have O2 := Lib.hid o2; have G2 := Lib.hid g2; obtain ⟨B2, e2, rfl⟩ := o2.form; clear o2 g2)
      | (refine copy_wp rfl _ _ rfl w3 _ rs rfl rfl (H3.out.grows ((HG.out.step G1.out).step G2.out)) (G1.out.step G2.out) ?_; intro v3 w6 o3 g3
         have O3 := Lib.hid o3
         obtain ⟨B3, e3, rfl⟩ := o3.form
         replace O1 := Lib.hid (own_rd ((O1.out.later G2.out).later g3) H1.out)
         replace O2 := Lib.hid (own_rd (O2.out.later g3) H2.out)
         replace O3 := Lib.hid (own_rd O3.out H3.out)
         have hgw : Grows w3 w6 := (G1.out.step G2.out).step g3
         replace HN := Lib.hid (HN.out.grows hgw)
         replace HB := Lib.hid (HB.out.grows hgw)
         replace HG := Lib.hid (HG.out.step hgw)
         clear hgw o3 g3 G1 G2
         obtain ⟨s0, s1, s2, s3⟩ := HB.out))
    obtain ⟨x1, x2, L1, L2, L3, hcall⟩ := sub_self a b c d r _ _ _ ys bs rs w6 HP.out O1.out O2.out O3.out
    refine hcall.mono ?_
    rintro e w7 ⟨vp, rfl, p1, p2, p3, rfl, o1, o2, o3⟩
    clear hcall
    have hgw := o1.2
    obtain ⟨C1, k1, rfl⟩ := o1.form
    obtain ⟨C2, k2, rfl⟩ := o2.form
    obtain ⟨C3, k3, rfl⟩ := o3.form
    clear o1 o2 o3 s0 s1 s2 s3
    go_upto_region 6 with fail
    have HX : Hid (PlAt (w7.alloc (.cells #[.int .i64 a, .int .i64 b, .int .i64 c, .int .i64 d, .int .i64 x1, .int .i64 x2, .int .i64 r, .slice C1 L1.length k1, .slice C2 L2.length k2, .slice C3 L3.length k3] 31)) w7.heap.size a b c d x1 x2 r (.slice C1 L1.length k1) (.slice C2 L2.length k2) (.slice C3 L3.length k3)) := heap_alloc_new _ _
    replace hgw := hgw.alloc' (.cells #[.int .i64 a, .int .i64 b, .int .i64 c, .int .i64 d, .int .i64 x1, .int .i64 x2, .int .i64 r, .slice C1 L1.length k1, .slice C2 L2.length k2, .slice C3 L3.length k3] 31)
    replace HN := Lib.hid (HN.out.grows hgw)
    replace HB := Lib.hid (HB.out.grows hgw)
    replace HG := Lib.hid (HG.out.step hgw)
    replace O1 := Lib.hid (O1.out.grows hgw)
    replace O2 := Lib.hid (O2.out.grows hgw)
    replace O3 := Lib.hid (O3.out.grows hgw)
    clear hgw
    generalize w7.alloc (.cells #[.int .i64 a, .int .i64 b, .int .i64 c, .int .i64 d, .int .i64 x1, .int .i64 x2, .int .i64 r, .slice C1 L1.length k1, .slice C2 L2.length k2, .slice C3 L3.length k3] 31) = w8 at *
    generalize w7.heap.size = xbx at *
    obtain ⟨A, B, C, D, z1, z2, M1, M2, M3, hsub⟩ := sub_some a b c d r a' b' c' d' _ _ _ ys bs rs w8 HP.out O1.out O2.out O3.out
    have HL := Lib.hid hsub
    clear hsub
    apply wp_region_lex_lit 9 (by kernel_rfl) (by kernel_rfl)
    iterate 7
      apply lex_pin
      · intro wq hgq hdq Kq hKq
        obtain ⟨p0, p1, p2, p3⟩ := HB.out.grows ((Grows.rfl' _).drew'.step hgq)
        obtain ⟨n0', n1', n2', n3'⟩ := HN.out.grows ((Grows.rfl' _).drew'.step hgq)
        go_wp2_with ((go_at_call 7; refine (asRect_any _ _ _ _ _).mono ?_); rintro e wq' ⟨rfl, hgq'⟩)
        first | exact hKq _ (Grows.rfl' _) | exact hKq _ hgq'
      · kernel_rfl
    apply lex_any (IsPl A B C D z1 z2 r M1 M2 M3 w8) IsPl.keep
    · intro wq hgq hdq Kq hKq
      go_wp2_with fail
      refine (HL.out _ ((Grows.rfl' _).drew'.step hgq)).mono ?_
      rintro e wq' ⟨v', rfl, p1, p2, p3, rfl, o1, o2, o3⟩
      have hgb : Grows w8 wq := (Grows.rfl' w8).drew'.step hgq
      have HO : Hid (Grows wq wq' ∧ IsPl A B C D z1 z2 r M1 M2 M3 w8 (.agg #[.int .i64 A, .int .i64 B, .int .i64 C, .int .i64 D, .int .i64 z1, .int .i64 z2, .int .i64 r, p1, p2, p3]) wq') := ⟨o1.2, p1, p2, p3, rfl, o1.base hgb, o2.base hgb, o3.base hgb⟩
      clear o1 o2 o3 hgb
      go_wp2_with fail
      exact hKq _ _ HO.out.1 HO.out.2
    intro vb
    simp only [Act.put, List.setIfInBounds_toArray, List.set_cons_succ, List.set_cons_zero]
    apply lex_any (ZeroPl w8) ZeroPl.keep
    · intro wq hgq hdq Kq hKq
      have hsz4 : w8.heap.size ≤ wq.heap.size := hgq.size
      go_wp2
      exact hKq _ _ ((Grows.rfl' _).alloc' _) ⟨wq.heap.size, rfl, hsz4, heap_alloc_new _ _⟩
    intro vx
    simp only [Act.put, List.setIfInBounds_toArray, List.set_cons_succ, List.set_cons_zero]
    refine lex_end ?_
    intro w9 hg9 hd9
    obtain ⟨p1, p2, p3, rfl, o1, o2, o3⟩ := hd9 7 _ rfl
    obtain ⟨pbx, rfl, hpb, hbox⟩ := hd9 8 _ rfl
    clear hd9
    obtain ⟨A', cc1, rfl⟩ := o1.form
    obtain ⟨B', cc2, rfl⟩ := o2.form
    obtain ⟨C', cc3, rfl⟩ := o3.form
    have kc : ∀ (i : Nat) (u : Value), (#[.int .i64 0, .int .i64 0, .int .i64 0, .int .i64 0, .int .i64 0, .int .i64 0, .int .i64 0, .slice none 0 0, .slice none 0 0, .slice none 0 0] : Array Value)[i]? = some u → w9.cell? ⟨pbx, i, none⟩ = some u := fun i u hu => by simpa [World.cell?, hbox] using hu
    have k0 := kc 0 _ rfl
    have k1 := kc 1 _ rfl
    have k2 := kc 2 _ rfl
    have k3 := kc 3 _ rfl
    have k4 := kc 4 _ rfl
    have k5 := kc 5 _ rfl
    have k6 := kc 6 _ rfl
    have k7 := kc 7 _ rfl
    have k8 := kc 8 _ rfl
    have k9 := kc 9 _ rfl
    have kf : ∀ i, w9.frozen? ⟨pbx, i, none⟩ = false := fun i => by simp [World.frozen?, hbox]
    have HX2 : Hid (PlAt (storedP w9 pbx (.int .i64 A) (.int .i64 B) (.int .i64 C) (.int .i64 D) (.int .i64 z1) (.int .i64 z2) (.int .i64 r) (.slice A' M1.length cc1) (.slice B' M2.length cc2) (.slice C' M3.length cc3)) pbx A B C D z1 z2 r (.slice A' M1.length cc1) (.slice B' M2.length cc2) (.slice C' M3.length cc3)) := storedP_block hbox (.int .i64 A) (.int .i64 B) (.int .i64 C) (.int .i64 D) (.int .i64 z1) (.int .i64 z2) (.int .i64 r) (.slice A' M1.length cc1) (.slice B' M2.length cc2) (.slice C' M3.length cc3)
    have HG5 : Hid (Grows w8 (storedP w9 pbx (.int .i64 A) (.int .i64 B) (.int .i64 C) (.int .i64 D) (.int .i64 z1) (.int .i64 z2) (.int .i64 r) (.slice A' M1.length cc1) (.slice B' M2.length cc2) (.slice C' M3.length cc3))) := storedP_grows ((Grows.rfl' w8).drew'.step hg9) hpb (.int .i64 A) (.int .i64 B) (.int .i64 C) (.int .i64 D) (.int .i64 z1) (.int .i64 z2) (.int .i64 r) (.slice A' M1.length cc1) (.slice B' M2.length cc2) (.slice C' M3.length cc3)
    have HCH : Hid (((((((((((w9.setCell ⟨pbx, 0, none⟩ (.int .i64 A)).setCell ⟨pbx, 1, none⟩ (.int .i64 B)).setCell ⟨pbx, 2, none⟩ (.int .i64 C)).setCell ⟨pbx, 3, none⟩ (.int .i64 D)).setCell ⟨pbx, 4, none⟩ (.int .i64 z1)).setCell ⟨pbx, 5, none⟩ (.int .i64 z2)).setCell ⟨pbx, 6, none⟩ (.int .i64 r)).setCell ⟨pbx, 7, none⟩ (.slice A' M1.length cc1)).setCell ⟨pbx, 8, none⟩ (.slice B' M2.length cc2)).setCell ⟨pbx, 9, none⟩ (.slice C' M3.length cc3)) = storedP w9 pbx (.int .i64 A) (.int .i64 B) (.int .i64 C) (.int .i64 D) (.int .i64 z1) (.int .i64 z2) (.int .i64 r) (.slice A' M1.length cc1) (.slice B' M2.length cc2) (.slice C' M3.length cc3)) := rfl
    clear hbox hg9 kc o1 o2 o3
    go_upto_region 7 with fail
    rw [HCH.out]
    clear HCH k0 k1 k2 k3 k4 k5 k6 k7 k8 k9 kf
    generalize storedP w9 pbx (.int .i64 A) (.int .i64 B) (.int .i64 C) (.int .i64 D) (.int .i64 z1) (.int .i64 z2) (.int .i64 r) (.slice A' M1.length cc1) (.slice B' M2.length cc2) (.slice C' M3.length cc3) = w10 at *
    replace HX := Lib.hid (HX.out.grows HG5.out)
    replace HB := Lib.hid (HB.out.grows HG5.out)
    replace HG := Lib.hid (HG.out.step HG5.out)
    replace O1 := Lib.hid (O1.out.grows HG5.out)
    replace O2 := Lib.hid (O2.out.grows HG5.out)
    replace O3 := Lib.hid (O3.out.grows HG5.out)
    clear HN hpb HG5 HL
    replace H1 := Lib.hid (H1.out.grows HG.out)
    replace H2 := Lib.hid (H2.out.grows HG.out)
    replace H3 := Lib.hid (H3.out.grows HG.out)
    go_wp2_with fail
    refine (sameInts_yes _ _ ys _ O1.out H1.out).mono ?_
    rintro e w11 ⟨rfl, g11⟩
    go_wp2_with fail
    refine (sameInts_yes _ _ bs _ (O2.out.grows g11) (H2.out.grows g11)).mono ?_
    rintro e w12 ⟨rfl, g12⟩
    have G12 := Lib.hid (g11.step g12)
    clear g11 g12
    go_wp2_with fail
    refine (sameInts_yes _ _ rs _ (O3.out.grows G12.out) (H3.out.grows G12.out)).mono ?_
    rintro e w13 ⟨rfl, g13⟩
    have G13 := Lib.hid (G12.out.step g13)
    obtain ⟨p0, p1, p2, p3⟩ := HB.out.grows G13.out
    obtain ⟨t0, t1, t2, t3, t4, t5, t6, t7, t8, t9⟩ := (HX.out.grows G13.out).cells
    obtain ⟨u0, u1, u2, u3, u4, u5, u6, u7, u8, u9⟩ := (HX2.out.grows G13.out).cells
    have haa : (a == a) = true := by simp
    have hbb : (b == b) = true := by simp
    have hcc : (c == c) = true := by simp
    have hdd : (d == d) = true := by simp
    have hrr : (r == r) = true := by simp
    clear g13
    go_wp2_with fail
    go_ret
    exact ⟨rfl, HG.out.step G13.out⟩
  · have HP := Lib.hid hf
    clear hf
    go_wp2_with fail
    refine (plainY_no _ _ _ _ _ _ HP.out ha hb).mono ?_
    rintro e w1 ⟨rfl, hg1⟩
    go_wp2_with fail
    go_ret
    exact ⟨rfl, (((Grows.rfl' w).alloc' _).alloc' _).step hg1⟩

set_option linter.unusedVariables false
set_option maxRecDepth 100000 in
theorem lifted (os : Os) (started : os.Started) (H : Type) (enc : TypeId × Value → H) :
    ReturnsInHanded {} Try.checked os 6 .any (Rows.fnYCbCrKeepsArgumentSpec.pre6 enc Try.prog Try.f6 Rows.fnYCbCrKeepsArgumentRow.domain false) (Rows.fnYCbCrKeepsArgumentSpec.post enc Try.prog Try.f6 false true false false) := by
  refine returnsInHanded_of_change_sized (C := Try.checked) own started (by kernel_rfl) Try.func6
    (ChangeSpec.witness6 (enc := enc) (C := Try.checked) false ⟨#[], #[.agg #[.int .i64 0, .int .i64 0, .int .i64 0, .int .i64 0], .int .i64 0, .slice none 0 0, .slice none 0 0, .slice none 0 0, .agg #[.int .i64 0, .int .i64 0, .int .i64 0, .int .i64 0]], []⟩ 8 (by kernel_rfl) (by kernel_rfl) (by kernel_rfl) (by kernel_rfl)) ?_
  intro W base args ds gs before hval0 hW hcnd hsz0 _
  have hval : ∀ (j : Nat) t v, Try.f6.params[j]? = some t → args[j]? = some v → Value.okWide Try.prog W .any base t v := hval0
  have hsz : (DataW.weightsEach Try.prog (Try.f6.params.toList ++ Rows.fnYCbCrKeepsArgumentSpec.plain.varTypes Try.prog) (ds ++ gs)).all (· ≤ reachBytes) = true := hsz0
  clear hsz0
  have hW' := hW
  obtain ⟨p, q, hA0, hV, rfl, hfz, hnd⟩ := hW
  have hA : DataW.TrodAll enc Try.prog W 0 (fun _ => true) true Try.f6.params.toList args.toList ds p := hA0
  rw [Try.params6] at hA hval hsz
  obtain ⟨v0, vs0, d0, ds0, p0, q0, hargs, rfl, rfl, h0, r0⟩ := trodAll_cons hA
  obtain ⟨v1, vs1, d1, ds1, p1, q1, rfl, rfl, rfl, h1, r1⟩ := trodAll_cons r0
  obtain ⟨v2, vs2, d2, ds2, p2, q2, rfl, rfl, rfl, h2, r2⟩ := trodAll_cons r1
  obtain ⟨v3, vs3, d3, ds3, p3, q3, rfl, rfl, rfl, h3, r3⟩ := trodAll_cons r2
  obtain ⟨v4, vs4, d4, ds4, p4, q4, rfl, rfl, rfl, h4, r4⟩ := trodAll_cons r3
  obtain ⟨v5, vs5, d5, ds5, p5, q5, rfl, rfl, rfl, h5, r5⟩ := trodAll_cons r4
  obtain ⟨rfl, rfl, rfl⟩ := trodAll_nil r5
  obtain rfl : args = #[v0, v1, v2, v3, v4, v5] := by cases args; simp_all
  obtain ⟨rfl, rfl⟩ := trodVars_none hV
  have k0 := h0
  have lt0 : ∀ x ∈ p0, x.block < W.heap.size := by obtain ⟨m, hm⟩ := k0; exact DataW.trod_lt m _ _ _ hm
  have k1 := h1
  have lt1 : ∀ x ∈ p1, x.block < W.heap.size := by obtain ⟨m, hm⟩ := k1; exact DataW.trod_lt m _ _ _ hm
  have k2 := h2
  have lt2 : ∀ x ∈ p2, x.block < W.heap.size := by obtain ⟨m, hm⟩ := k2; exact DataW.trod_lt m _ _ _ hm
  have k3 := h3
  have lt3 : ∀ x ∈ p3, x.block < W.heap.size := by obtain ⟨m, hm⟩ := k3; exact DataW.trod_lt m _ _ _ hm
  have k4 := h4
  have lt4 : ∀ x ∈ p4, x.block < W.heap.size := by obtain ⟨m, hm⟩ := k4; exact DataW.trod_lt m _ _ _ hm
  have k5 := h5
  have lt5 : ∀ x ∈ p5, x.block < W.heap.size := by obtain ⟨m, hm⟩ := k5; exact DataW.trod_lt m _ _ _ hm
  obtain ⟨s0a, s0b, s0c, s0d, rfl, ⟨b0a, b0b, b0c, b0d⟩⟩ := open_four Try.underlying23 (by kernel_rfl) cells23 (hval 0 23 v0 rfl rfl) h0
  obtain ⟨x1, rfl, he1, _, w1⟩ := open_int Try.underlying3 (hval 1 3 v1 rfl rfl) h1
  obtain ⟨z2, hz2⟩ := open_list (hval 2 24 v2 rfl rfl) h2 (fun el sp hd => by subst hd; exact sized_slice hsz (j := 2) (t := 24) (e := 3) rfl rfl Try.underlying24)
  obtain ⟨z3, hz3⟩ := open_list (hval 3 24 v3 rfl rfl) h3 (fun el sp hd => by subst hd; exact sized_slice hsz (j := 3) (t := 24) (e := 3) rfl rfl Try.underlying24)
  obtain ⟨z4, hz4⟩ := open_list (hval 4 24 v4 rfl rfl) h4 (fun el sp hd => by subst hd; exact sized_slice hsz (j := 4) (t := 24) (e := 3) rfl rfl Try.underlying24)
  obtain ⟨s5a, s5b, s5c, s5d, rfl, ⟨b5a, b5b, b5c, b5d⟩⟩ := open_four Try.underlying23 (by kernel_rfl) cells23 (hval 5 23 v5 rfl rfl) h5
  refine (walk s0a s0b s0c s0d x1 v2 z2 v3 z3 v4 z4 s5a s5b s5c s5d W b0a b0b b0c b0d (bounds_i64 w1) hz2 hz3 hz4 b5a b5b b5c b5d).mono fun e W' ⟨he, bel⟩ => ?_
  subst he
  exact ⟨_, rfl, _, _, _, [], _, [], hW', trodAll_mk1 (shut_bool Try.underlying4 _), (trodAll_cons_mk (Below.trod laidOut (by kernel_rfl) (of_decide_eq_true (by kernel_rfl)) k0 bel lt0) (trodAll_cons_mk (Below.trod laidOut (by kernel_rfl) (of_decide_eq_true (by kernel_rfl)) k1 bel lt1) (trodAll_cons_mk (Below.trod laidOut (by kernel_rfl) (of_decide_eq_true (by kernel_rfl)) k2 bel lt2) (trodAll_cons_mk (Below.trod laidOut (by kernel_rfl) (of_decide_eq_true (by kernel_rfl)) k3 bel lt3) (trodAll_cons_mk (Below.trod laidOut (by kernel_rfl) (of_decide_eq_true (by kernel_rfl)) k4 bel lt4) (trodAll_cons_mk (Below.trod laidOut (by kernel_rfl) (of_decide_eq_true (by kernel_rfl)) k5 bel lt5) trodAll_mk0)))))), rfl, bel.frame _, fun h => by cases h⟩

theorem proved : Rows.FnYCbCrKeepsArgumentSaid :=
  OpenClaim.holds_of_wide 6 Try.f6 rfl rfl rfl rfl rfl rfl rfl ⟨rfl, rfl, rfl, rfl, rfl⟩ rfl rfl rfl rfl rfl (by kernel_rfl) Try.func6 (by kernel_rfl)
    (of_decide_eq_true (by kernel_rfl)) (by unfold Func.isWrapper; first | (rw [if_pos (by decide +kernel)]; kernel_rfl) | (rw [if_neg (by decide +kernel)]; exact ⟨rfl, rfl⟩))
    (fun os started H enc _ => lifted os started H enc)
#print axioms proved
end Go.Proofs.Ytbmpjehahimelaa.lawYCbCrKeepsArgument

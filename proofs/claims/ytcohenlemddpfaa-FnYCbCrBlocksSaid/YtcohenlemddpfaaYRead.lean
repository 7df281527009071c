/-
  Contracts of image.YCbCr's YCbCrAt and At at an image in memory, of the thin package's YCbCrRead and YCbCrColor, of the reference's YCbCrRead and of the statements' sample. Conditions stand in each theorem.
-/
import Derived.Test.YtcohenlemddpfaaYSpec
namespace Go.Proofs.Ytcohenlemddpfaa
open Go.RowKit
set_option linter.unusedVariables false

/-- The luma and the chroma numbers of a pixel; 0 outside. -/
def colY (a b c d : Int) (ys : List Int) (x y : Int) : Int := if Inn a b c d x y then byteAt ys (yAt a b c x y) else 0
def colC (a b c d r : Int) (bs : List Int) (x y : Int) : Int := if Inn a b c d x y then byteAt bs (cAt a b c r x y) else 0
theorem colY_in {a b c d : Int} {ys : List Int} {x y : Int} (h : Inn a b c d x y) : colY a b c d ys x y = byteAt ys (yAt a b c x y) := if_pos h
theorem colC_in {a b c d r : Int} {bs : List Int} {x y : Int} (h : Inn a b c d x y) : colC a b c d r bs x y = byteAt bs (cAt a b c r x y) := if_pos h
theorem colY_out {a b c d : Int} {ys : List Int} {x y : Int} (h : ¬ Inn a b c d x y) : colY a b c d ys x y = 0 := if_neg h
theorem colC_out {a b c d r : Int} {bs : List Int} {x y : Int} (h : ¬ Inn a b c d x y) : colC a b c d r bs x y = 0 := if_neg h

set_option maxRecDepth 20000 in
set_option maxHeartbeats 4000000 in
theorem ycAt_in (ib pb oy ob or' ly lb lr N i k : Nat) (f : Nat → Int) (ys cs r a b c d x y : Int) (w : World) (hI : ImgY w ib (.slice (some ⟨pb, oy, none⟩) ly ly) (.slice (some ⟨pb, ob, none⟩) lb lb) (.slice (some ⟨pb, or', none⟩) lr lr) ys cs r a b c d) (hP : Px w pb N f) (hin : Inn a b c d x y)
    (r0 : 0 ≤ r) (r5 : r ≤ 5) (g0 : 0 ≤ a) (g1 : 0 ≤ b) (hx : c ≤ a + 1000) (hy : d ≤ b + 1000) (g2 : a ≤ 4611686018427387904) (g3 : b ≤ 4611686018427387904) (y0 : 0 ≤ ys) (y1 : ys ≤ 1000) (c0 : 0 ≤ cs) (c1 : cs ≤ 1000)
    (hi : (y - b) * ys + (x - a) = (i : Int)) (hk : (y / vsp r - b / vsp r) * cs + (x / hsp r - a / hsp r) = (k : Int)) (l1 : i < ly) (l2 : k < lb) (l3 : k < lr) (n1 : oy + ly ≤ N) (n2 : ob + lb ≤ N) (n3 : or' + lr ≤ N) (hm : N ≤ 17592186044416) :
    Calls Try.prog 23 #[.pointer (some ⟨ib, 0, none⟩), .int .i64 x, .int .i64 y] w fun e w' => e = .returned (.agg #[.int .u8 (f (oy + i)), .int .u8 (f (ob + k)), .int .u8 (f (or' + k))]) ∧ Grows w w' := by
  have HI := Lib.hid hI
  have HIN := Lib.hid hin
  have k0 := hP.cell (i := oy + i) (by omega)
  have k1 := hP.cell (i := ob + k) (by omega)
  have k2 := hP.cell (i := or' + k) (by omega)
  have hlt : ib < w.heap.size := hI.lt
  have hlt2 : pb < w.heap.size := cell_lt k0
  obtain ⟨i1, i2, i3, i4⟩ := hin
  have HYO : Hid (∀ W, Grows w W → Calls Try.prog 24 #[.pointer (some ⟨ib, 0, none⟩), .int .i64 x, .int .i64 y] W fun e w' => e = .returned (.int .i64 i) ∧ Grows W w') := fun W hW => yOff_in ib i _ _ _ ys cs r a b c d x y W (hI.grows hW) (by omega) (by omega) (by omega) (by omega) y0 y1 hi
  have HCO : Hid (∀ W, Grows w W → Calls Try.prog 25 #[.pointer (some ⟨ib, 0, none⟩), .int .i64 x, .int .i64 y] W fun e w' => e = .returned (.int .i64 k) ∧ Grows W w') := fun W hW => cOff_in ib k _ _ _ ys cs r a b c d x y W (hI.grows hW) r0 r5 g0 g1 i3 (by omega) i1 (by omega) c0 c1 g2 g3 hk
  generalize f (oy + i) = u0 at *
  generalize f (ob + k) = u1 at *
  generalize f (or' + k) = u2 at *
  obtain ⟨q0, q1, q2, q3, q4, q5, q6, q7, q8, q9⟩ := hI.cells
  clear hI hi hk hP
  go_enter Try.func23, Try.ntmps23
  go_wp2_with fail
  refine (in_yes _ _ _ _ _ _ _ HIN.out).mono ?_
  rintro e w1 ⟨rfl, hg1⟩
  have HGB := Lib.hid hg1
  have HG1 : Hid (Grows w w1) := ((Grows.rfl' w).alloc' _).step hg1
  clear hg1 q0 q1 q2 q3 q4 q5 q6 q7 q8 q9
  go_wp2_with fail
  refine (HYO.out _ HG1.out).mono ?_
  rintro e w2 ⟨rfl, hg2⟩
  replace HGB := Lib.hid (HGB.out.step hg2)
  have HG2 := Lib.hid (HG1.out.step hg2)
  clear hg2
  go_wp2_with fail
  refine (HCO.out _ HG2.out).mono ?_
  rintro e w3 ⟨rfl, hg3⟩
  replace HGB := Lib.hid (HGB.out.step hg3)
  have HG3 := Lib.hid (HG2.out.step hg3)
  clear hg3
  have b1 : decide ((i : Int) < ly) = true := decide_eq_true (by omega)
  have b2 : decide ((k : Int) < lb) = true := decide_eq_true (by omega)
  have b3 : decide ((k : Int) < lr) = true := decide_eq_true (by omega)
  go_wp2_with fail
  apply wp_region_lex_lit 22 (by kernel_rfl) (by kernel_rfl)
  iterate 22
    apply lex_pin
    · intro wq hgq hdq Kq hKq
      have hgz := HG3.out.drew'.step hgq
      obtain ⟨q0, q1, q2, q3, q4, q5, q6, q7, q8, q9⟩ := (HI.out.grows hgz).cells
      have m0 := hgz.cell_some k0
      have m1 := hgz.cell_some k1
      have m2 := hgz.cell_some k2
      clear hgz
      go_wp2
      exact hKq _ (Grows.rfl' _)
    · kernel_rfl
  refine lex_end ?_
  intro w4 hg4 _
  obtain ⟨hcq, hfq⟩ := (HGB.out.drew'.step hg4).cells
  have HG4 := Lib.hid (HG3.out.drew'.step hg4)
  clear hg4 HGB k0 k1 k2
  go_wp2_with fail
  refine bodyPost_ret (v := .agg #[.int .u8 u0, .int .u8 u1, .int .u8 u2]) (by simp [results, Try.results23, go_sem, hcq]) rfl ⟨rfl, ?_⟩
  iterate 3 refine Grows.set' ?_ (by simp) _
  exact HG4.out

set_option maxHeartbeats 2000000 in
theorem ycAt_out (ib : Nat) (vy vb vr : Value) (ys cs r a b c d x y : Int) (w : World) (hI : ImgY w ib vy vb vr ys cs r a b c d) (hin : ¬ Inn a b c d x y) :
    Calls Try.prog 23 #[.pointer (some ⟨ib, 0, none⟩), .int .i64 x, .int .i64 y] w fun e w' => e = .returned (.agg #[.int .u8 0, .int .u8 0, .int .u8 0]) ∧ Grows w w' := by
  have HIN := Lib.hid hin
  have hlt : ib < w.heap.size := hI.lt
  obtain ⟨q0, q1, q2, q3, q4, q5, q6, q7, q8, q9⟩ := hI.cells
  clear hI hin
  go_enter Try.func23, Try.ntmps23
  go_wp2_with fail
  refine (in_no _ _ _ _ _ _ _ HIN.out).mono ?_
  rintro e w1 ⟨rfl, hg1⟩
  have HG1 : Hid (Grows w w1) := ((Grows.rfl' w).alloc' _).step hg1
  obtain ⟨hcq, hfq⟩ := hg1.cells
  clear hg1
  go_wp2_with fail
  refine bodyPost_ret (v := .agg #[.int .u8 0, .int .u8 0, .int .u8 0]) (by simp [results, Try.results23, go_sem, hcq]) rfl ⟨rfl, ?_⟩
  iterate 3 refine Grows.set' ?_ (by simp) _
  exact HG1.out

set_option maxHeartbeats 1000000 in
theorem fromY_any (p q s : Int) (w : World) (hp : 0 ≤ p ∧ p ≤ 255) (hq : 0 ≤ q ∧ q ≤ 255) (hs : 0 ≤ s ∧ s ≤ 255) :
    Calls Try.prog 22 #[.agg #[.int .u8 p, .int .u8 q, .int .u8 s]] w fun e w' => e = .returned (.agg #[.int .i64 p, .int .i64 q, .int .i64 s, .int .i64 0]) ∧ Grows w w' := by
  go_enter Try.func22, Try.ntmps22
  go_wp2
  exact bodyPost_ret (v := .agg #[.int .i64 p, .int .i64 q, .int .i64 s, .int .i64 0]) (by simp [results, Try.results22, go_sem]) rfl ⟨rfl, ((Grows.rfl' _).alloc' _).alloc' _⟩

/-- YCbCrAt at a new image that is filled. -/
theorem ycAt_new (a b c d r x y : Int) (ys bs rs : List Int) (ib pb : Nat) (w : World) (h : PlainY a b c d r)
    (hI : ImgY w ib (.slice (some ⟨pb, 0, none⟩) (nY a b c d) (nY a b c d)) (.slice (some ⟨pb, nY a b c d, none⟩) (nC a b c d r) (nC a b c d r)) (.slice (some ⟨pb, nY a b c d + nC a b c d r, none⟩) (nC a b c d r) (nC a b c d r)) (c - a) (acr a c (hsp r)) r a b c d) (hP : Px w pb (nY a b c d + nC a b c d r + nC a b c d r) (plF (nY a b c d) (nC a b c d r) ys bs rs)) :
    Calls Try.prog 23 #[.pointer (some ⟨ib, 0, none⟩), .int .i64 x, .int .i64 y] w fun e w' => e = .returned (.agg #[.int .u8 (colY a b c d ys x y), .int .u8 (colC a b c d r bs x y), .int .u8 (colC a b c d r rs x y)]) ∧ Grows w w' := by
  have hn0 := h.nY_eq.2
  have hn1 := h.nC_eq.2
  have hcw := h.cw
  by_cases hin : Inn a b c d x y
  · obtain ⟨hi, hil⟩ := h.yAt_eq hin
    obtain ⟨hk, hkl⟩ := h.cAt_eq hin
    obtain ⟨⟨⟨f1, f2⟩, ⟨f3, f4⟩, ⟨f5, f6⟩, ⟨f7, f8⟩⟩, ⟨g1, g2⟩, ⟨g3, g4⟩, ⟨r0, r5⟩⟩ := h
    refine (ycAt_in ib pb _ _ _ _ _ _ _ _ _ _ _ _ r a b c d x y w hI hP hin r0 r5 g1 g2 (by omega) (by omega) (by omega) (by omega) (by omega) (by omega) (by omega) (by omega) hi hk hil hkl hkl (by omega) (by omega) (by omega) (by omega)).mono ?_
    rintro e w' ⟨rfl, hg⟩
    refine ⟨?_, hg⟩
    have e1 : plF (nY a b c d) (nC a b c d r) ys bs rs (0 + yAt a b c x y) = colY a b c d ys x y := by
      rw [colY_in hin, Nat.zero_add]
      unfold plF
      rw [if_pos hil]
    have e2 : plF (nY a b c d) (nC a b c d r) ys bs rs (nY a b c d + cAt a b c r x y) = colC a b c d r bs x y := by
      rw [colC_in hin]
      unfold plF
      rw [if_neg (by omega), if_pos (by omega)]
      congr 1
      omega
    have e3 : plF (nY a b c d) (nC a b c d r) ys bs rs (nY a b c d + nC a b c d r + cAt a b c r x y) = colC a b c d r rs x y := by
      rw [colC_in hin]
      unfold plF
      rw [if_neg (by omega), if_neg (by omega)]
      congr 1
      omega
    rw [e1, e2, e3]
  · refine (ycAt_out ib _ _ _ _ _ _ a b c d x y w hI hin).mono ?_
    rintro e w' ⟨rfl, hg⟩
    exact ⟨by rw [colY_out hin, colC_out hin, colC_out hin], hg⟩

theorem colY_bd (a b c d : Int) (ys : List Int) (x y : Int) : 0 ≤ colY a b c d ys x y ∧ colY a b c d ys x y ≤ 255 := by
  unfold colY
  split
  · exact byteAt_in _ _
  · omega
theorem colC_bd (a b c d r : Int) (ys : List Int) (x y : Int) : 0 ≤ colC a b c d r ys x y ∧ colC a b c d r ys x y ≤ 255 := by
  unfold colC
  split
  · exact byteAt_in _ _
  · omega

set_option maxHeartbeats 4000000 in
theorem readY_any (a b c d r x y : Int) (vy vb vr : Value) (ys bs rs : List Int) (w : World) (h : PlainY a b c d r) (h1 : RdI w vy ys) (h2 : RdI w vb bs) (h3 : RdI w vr rs) :
    Calls Try.prog 11 #[box4 a b c d, .int .i64 r, vy, vb, vr, .int .i64 x, .int .i64 y] w fun e w' => e = .returned (.agg #[.int .i64 (colY a b c d ys x y), .int .i64 (colC a b c d r bs x y), .int .i64 (colC a b c d r rs x y), .int .i64 0]) ∧ Grows w w' := by
  have H1 := Lib.hid h1
  have H2 := Lib.hid h2
  have H3 := Lib.hid h3
  have HH := Lib.hid h
  obtain ⟨A1, c1, rfl, _⟩ := h1
  obtain ⟨A2, c2, rfl, _⟩ := h2
  obtain ⟨A3, c3, rfl, _⟩ := h3
  clear h
  go_enter Try.func11, Try.ntmps11
  go_wp2_with fail
  refine (mkY_any a b c d r _ _ _ ys bs rs _ HH.out (H1.out.grows (((Grows.rfl' w).alloc' _).alloc' _)) (H2.out.grows (((Grows.rfl' w).alloc' _).alloc' _)) (H3.out.grows (((Grows.rfl' w).alloc' _).alloc' _))).mono ?_
  rintro e w1 ⟨ib, pb, rfl, _, _, him, hpx, hg1⟩
  have HAT := Lib.hid (ycAt_new a b c d r x y ys bs rs ib pb w1 HH.out him hpx)
  have HGB := Lib.hid hg1
  have HG : Hid (Grows w w1) := (((Grows.rfl' w).alloc' _).alloc' _).step hg1
  have b1 := colY_bd a b c d ys x y
  have b2 := colC_bd a b c d r bs x y
  have b3 := colC_bd a b c d r rs x y
  clear him hpx hg1 H1 H2 H3
  generalize hu0 : colY a b c d ys x y = u0 at *
  generalize hu1 : colC a b c d r bs x y = u1 at *
  generalize hu2 : colC a b c d r rs x y = u2 at *
  have HU : Hid (colY a b c d ys x y = u0 ∧ colC a b c d r bs x y = u1 ∧ colC a b c d r rs x y = u2) := ⟨hu0, hu1, hu2⟩
  clear hu0 hu1 hu2
  go_wp2_with fail
  refine (HAT.out).mono ?_
  rintro e w2 ⟨rfl, hg2⟩
  replace HGB := Lib.hid (HGB.out.step hg2)
  replace HG := Lib.hid (HG.out.step hg2)
  clear hg2
  go_wp2_with fail
  refine (fromY_any _ _ _ _ b1 b2 b3).mono ?_
  rintro e w3 ⟨rfl, hg3⟩
  have hgb := HGB.out.step hg3
  obtain ⟨hcq, hfq⟩ := hgb.cells
  replace HG := Lib.hid (HG.out.step hg3)
  clear hg3 hgb HGB HAT
  go_wp2_with fail
  refine bodyPost_ret (v := .agg #[.int .i64 u0, .int .i64 u1, .int .i64 u2, .int .i64 0]) (by simp [results, Try.results11, go_sem, hcq]) rfl ⟨by first | rfl | rw [HU.out.1, HU.out.2.1, HU.out.2.2], ?_⟩
  iterate 4 refine Grows.set' ?_ (by simp) _
  exact HG.out

theorem assert_colY (p q s : Int) (w : World) : (Instr.typeAssert (.iface 46 (.agg #[.int .u8 p, .int .u8 q, .int .u8 s])) 59 46 false).run Try.prog w = .ok (.agg #[.int .u8 p, .int .u8 q, .int .u8 s]) w := by kernel_rfl

set_option maxHeartbeats 1000000 in
theorem atY_iface (p x y : Value) (u0 u1 u2 : Int) (w : World) (h : Calls Try.prog 23 #[p, x, y] w fun e w' => e = .returned (.agg #[.int .u8 u0, .int .u8 u1, .int .u8 u2]) ∧ Grows w w') :
    Calls Try.prog 34 #[p, x, y] w fun e w' => e = .returned (.iface 46 (.agg #[.int .u8 u0, .int .u8 u1, .int .u8 u2])) ∧ Grows w w' := by
  have H := Lib.hid h
  clear h
  go_enter Try.func34, Try.ntmps34
  go_wp2_with fail
  refine H.out.mono ?_
  rintro e w1 ⟨rfl, hg1⟩
  go_wp2_with fail
  go_ret
  exact ⟨rfl, hg1⟩

set_option maxHeartbeats 4000000 in
theorem colorY_any (a b c d r x y : Int) (vy vb vr : Value) (ys bs rs : List Int) (w : World) (h : PlainY a b c d r) (h1 : RdI w vy ys) (h2 : RdI w vb bs) (h3 : RdI w vr rs) :
    Calls Try.prog 17 #[box4 a b c d, .int .i64 r, vy, vb, vr, .int .i64 x, .int .i64 y] w fun e w' => e = .returned (.agg #[.int .i64 (colY a b c d ys x y), .int .i64 (colC a b c d r bs x y), .int .i64 (colC a b c d r rs x y), .int .i64 0]) ∧ Grows w w' := by
  have has := assert_colY
  have H1 := Lib.hid h1
  have H2 := Lib.hid h2
  have H3 := Lib.hid h3
  have HH := Lib.hid h
  obtain ⟨A1, c1, rfl, _⟩ := h1
  obtain ⟨A2, c2, rfl, _⟩ := h2
  obtain ⟨A3, c3, rfl, _⟩ := h3
  clear h
  go_enter Try.func17, Try.ntmps17
  go_wp2_with fail
  refine (mkY_any a b c d r _ _ _ ys bs rs _ HH.out (H1.out.grows (((Grows.rfl' w).alloc' _).alloc' _)) (H2.out.grows (((Grows.rfl' w).alloc' _).alloc' _)) (H3.out.grows (((Grows.rfl' w).alloc' _).alloc' _))).mono ?_
  rintro e w1 ⟨ib, pb, rfl, _, _, him, hpx, hg1⟩
  have HAT := Lib.hid (ycAt_new a b c d r x y ys bs rs ib pb w1 HH.out him hpx)
  have HGB := Lib.hid hg1
  have HG : Hid (Grows w w1) := (((Grows.rfl' w).alloc' _).alloc' _).step hg1
  have b1 := colY_bd a b c d ys x y
  have b2 := colC_bd a b c d r bs x y
  have b3 := colC_bd a b c d r rs x y
  clear him hpx hg1 H1 H2 H3
  generalize hu0 : colY a b c d ys x y = u0 at *
  generalize hu1 : colC a b c d r bs x y = u1 at *
  generalize hu2 : colC a b c d r rs x y = u2 at *
  have HU : Hid (colY a b c d ys x y = u0 ∧ colC a b c d r bs x y = u1 ∧ colC a b c d r rs x y = u2) := ⟨hu0, hu1, hu2⟩
  clear hu0 hu1 hu2
  go_wp2_with fail
  refine (atY_iface _ _ _ _ _ _ _ HAT.out).mono ?_
  rintro e w2 ⟨rfl, hg2⟩
  replace HGB := Lib.hid (HGB.out.step hg2)
  replace HG := Lib.hid (HG.out.step hg2)
  clear hg2
  go_wp2_with fail
  refine (fromY_any _ _ _ _ b1 b2 b3).mono ?_
  rintro e w3 ⟨rfl, hg3⟩
  have hgb := HGB.out.step hg3
  obtain ⟨hcq, hfq⟩ := hgb.cells
  replace HG := Lib.hid (HG.out.step hg3)
  clear hg3 hgb HGB HAT
  go_wp2_with fail
  refine bodyPost_ret (v := .agg #[.int .i64 u0, .int .i64 u1, .int .i64 u2, .int .i64 0]) (by simp [results, Try.results17, go_sem, hcq]) rfl ⟨by first | rfl | rw [HU.out.1, HU.out.2.1, HU.out.2.2], ?_⟩
  iterate 4 refine Grows.set' ?_ (by simp) _
  exact HG.out
end Go.Proofs.Ytcohenlemddpfaa

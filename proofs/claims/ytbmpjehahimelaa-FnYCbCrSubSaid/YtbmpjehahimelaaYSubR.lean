/-
  Contract of the thin package's YCbCrSubRead. Conditions stand in each theorem.
-/
import Derived.Test.YtbmpjehahimelaaYSubI
import Derived.Test.YtbmpjehahimelaaYRead
namespace Go.Proofs.Ytbmpjehahimelaa
open Go.RowKit
set_option linter.unusedVariables false

/-- The numbers that a part has at a point: those of the image where the part has it, else 0. -/
def partY (a b c d a' b' c' d' : Int) (ys : List Int) (x y : Int) : Int := if Meet a' b' c' d' a b c d ∧ Inn (max a' a) (max b' b) (min c' c) (min d' d) x y then colY a b c d ys x y else 0
def partC (a b c d r a' b' c' d' : Int) (bs : List Int) (x y : Int) : Int := if Meet a' b' c' d' a b c d ∧ Inn (max a' a) (max b' b) (min c' c) (min d' d) x y then colC a b c d r bs x y else 0

set_option maxHeartbeats 2000000 in
/-- YCbCrAt at the part, whichever it is. -/
theorem subRead_at (a b c d r a' b' c' d' x y : Int) (zy zb zr : List Int) (w1 : World) (ib pb : Nat) (h : PlainY a b c d r)
    (hI : ImgY w1 ib (.slice (some ⟨pb, 0, none⟩) (nY a b c d) (nY a b c d)) (.slice (some ⟨pb, nY a b c d, none⟩) (nC a b c d r) (nC a b c d r)) (.slice (some ⟨pb, nY a b c d + nC a b c d r, none⟩) (nC a b c d r) (nC a b c d r)) (c - a) (acr a c (hsp r)) r a b c d) (hP : Px w1 pb (nY a b c d + nC a b c d r + nC a b c d r) (plF (nY a b c d) (nC a b c d r) zy zb zr)) :
    Calls Try.prog 20 #[.pointer (some ⟨ib, 0, none⟩), box4 a' b' c' d'] w1 fun e w' => ∃ ib', e = .returned (.iface 45 (.pointer (some ⟨ib', 0, none⟩))) ∧ Grows w1 w' ∧
      ∀ W, Grows w' W → Calls Try.prog 24 #[.pointer (some ⟨ib', 0, none⟩), .int .i64 x, .int .i64 y] W fun e w' => e = .returned (.agg #[.int .u8 (partY a b c d a' b' c' d' zy x y), .int .u8 (partC a b c d r a' b' c' d' zb x y), .int .u8 (partC a b c d r a' b' c' d' zr x y)]) ∧ Grows W w' := by
  have hn0 := h.nY_eq.2
  have hn1 := h.nC_eq.2
  have hcw := h.cw
  by_cases hm : Meet a' b' c' d' a b c d
  · have hin : Inn a b c d (max a' a) (max b' b) := by obtain ⟨m1, m2⟩ := hm; unfold Inn; omega
    obtain ⟨hi, hil⟩ := h.yAt_eq hin
    obtain ⟨hk, hkl⟩ := h.cAt_eq hin
    have hh := h
    obtain ⟨⟨⟨f1, f2⟩, ⟨f3, f4⟩, ⟨f5, f6⟩, ⟨f7, f8⟩⟩, ⟨g1, g2⟩, ⟨g3, g4⟩, ⟨r0, r5⟩⟩ := h
    refine (subY_yes ib pb _ _ _ _ _ _ _ _ _ _ r a b c d a' b' c' d' w1 hI hm r0 r5 g1 g2 (by omega) (by omega) (by omega) (by omega) (by omega) (by omega) (by omega) (by omega) hi hk hil hkl hkl (by omega) (by omega) (by omega)).mono ?_
    rintro e w' ⟨ib', rfl, _, hI', hg⟩
    refine ⟨ib', rfl, hg, fun W hW => ?_⟩
    by_cases hpt : Inn (max a' a) (max b' b) (min c' c) (min d' d) x y
    · have hin2 : Inn a b c d x y := by obtain ⟨m1, m2⟩ := hm; obtain ⟨p1, p2, p3, p4⟩ := hpt; unfold Inn; omega
      obtain ⟨hi2, hil2⟩ := hh.yAt_eq hin2
      obtain ⟨hk2, hkl2⟩ := hh.cAt_eq hin2
      have hw : vsp r = 1 ∨ vsp r = 2 ∨ vsp r = (4 : Int) := by rcases vsp_or r with h | h <;> simp [h]
      obtain ⟨p1, p2, p3, p4⟩ := hpt
      have dy : 0 ≤ y - max b' b := by omega
      have ey : (y - b) * (c - a) = (y - max b' b) * (c - a) + (max b' b - b) * (c - a) := by rw [← Int.add_mul]; congr 1; omega
      have ec : (y / vsp r - b / vsp r) * acr a c (hsp r) = (y / vsp r - max b' b / vsp r) * acr a c (hsp r) + (max b' b / vsp r - b / vsp r) * acr a c (hsp r) := by rw [← Int.add_mul]; congr 1; omega
      have my : 0 ≤ (y - max b' b) * (c - a) := Int.mul_nonneg dy (by omega)
      have dv : 0 ≤ y / vsp r - max b' b / vsp r := by rcases hw with h | h | h <;> rw [h] <;> omega
      have dh : 0 ≤ x / hsp r - max a' a / hsp r := by rcases hsp_or r with h | h | h <;> rw [h] <;> omega
      have mc : 0 ≤ (y / vsp r - max b' b / vsp r) * acr a c (hsp r) := Int.mul_nonneg dv (by omega)
      have li : (y - max b' b) * (c - a) + (x - max a' a) = ((yAt a b c x y - yAt a b c (max a' a) (max b' b) : Nat) : Int) := by omega
      have lk : (y / vsp r - max b' b / vsp r) * acr a c (hsp r) + (x / hsp r - max a' a / hsp r) = ((cAt a b c r x y - cAt a b c r (max a' a) (max b' b) : Nat) : Int) := by omega
      have ly : yAt a b c (max a' a) (max b' b) ≤ yAt a b c x y := by omega
      have lc : cAt a b c r (max a' a) (max b' b) ≤ cAt a b c r x y := by omega
      refine (ycAt_in ib' pb _ _ _ _ _ _ _ _ _ _ _ _ r _ _ _ _ x y W (hI'.grows hW) ((hP.grows hg).grows hW) ⟨p1, p2, p3, p4⟩ r0 r5 (by omega) (by omega) (by omega) (by omega) (by omega) (by omega) (by omega) (by omega) (by omega) (by omega) li lk (by omega) (by omega) (by omega) (by omega) (by omega) (by omega) (by omega)).mono ?_
      rintro e w'' ⟨rfl, hg2⟩
      refine ⟨?_, hg2⟩
      have e1 : plF (nY a b c d) (nC a b c d r) zy zb zr (0 + yAt a b c (max a' a) (max b' b) + (yAt a b c x y - yAt a b c (max a' a) (max b' b))) = partY a b c d a' b' c' d' zy x y := by
        unfold partY
        rw [if_pos ⟨hm, p1, p2, p3, p4⟩, colY_in hin2]
        unfold plF
        rw [if_pos (by omega)]
        congr 1
        omega
      have e2 : plF (nY a b c d) (nC a b c d r) zy zb zr (nY a b c d + cAt a b c r (max a' a) (max b' b) + (cAt a b c r x y - cAt a b c r (max a' a) (max b' b))) = partC a b c d r a' b' c' d' zb x y := by
        unfold partC
        rw [if_pos ⟨hm, p1, p2, p3, p4⟩, colC_in hin2]
        unfold plF
        rw [if_neg (by omega), if_pos (by omega)]
        congr 1
        omega
      have e3 : plF (nY a b c d) (nC a b c d r) zy zb zr (nY a b c d + nC a b c d r + cAt a b c r (max a' a) (max b' b) + (cAt a b c r x y - cAt a b c r (max a' a) (max b' b))) = partC a b c d r a' b' c' d' zr x y := by
        unfold partC
        rw [if_pos ⟨hm, p1, p2, p3, p4⟩, colC_in hin2]
        unfold plF
        rw [if_neg (by omega), if_neg (by omega)]
        congr 1
        omega
      rw [e1, e2, e3]
    · refine (ycAt_out ib' _ _ _ _ _ _ _ _ _ _ x y W (hI'.grows hW) hpt).mono ?_
      rintro e w'' ⟨rfl, hg2⟩
      refine ⟨?_, hg2⟩
      unfold partY partC
      rw [if_neg (fun h => hpt h.2), if_neg (fun h => hpt h.2), if_neg (fun h => hpt h.2)]
  · refine (subY_no ib _ _ _ _ _ _ a b c d a' b' c' d' w1 hI hm).mono ?_
    rintro e w' ⟨ib', rfl, _, hI', hg⟩
    refine ⟨ib', rfl, hg, fun W hW => ?_⟩
    refine (ycAt_out ib' _ _ _ _ _ _ _ _ _ _ x y W (hI'.grows hW) (by unfold Inn; omega)).mono ?_
    rintro e w'' ⟨rfl, hg2⟩
    refine ⟨?_, hg2⟩
    unfold partY partC
    rw [if_neg (fun h => hm h.1), if_neg (fun h => hm h.1), if_neg (fun h => hm h.1)]

theorem partY_bd (a b c d a' b' c' d' : Int) (ys : List Int) (x y : Int) : 0 ≤ partY a b c d a' b' c' d' ys x y ∧ partY a b c d a' b' c' d' ys x y ≤ 255 := by
  unfold partY
  split
  · exact colY_bd _ _ _ _ _ _ _
  · omega
theorem partC_bd (a b c d r a' b' c' d' : Int) (ys : List Int) (x y : Int) : 0 ≤ partC a b c d r a' b' c' d' ys x y ∧ partC a b c d r a' b' c' d' ys x y ≤ 255 := by
  unfold partC
  split
  · exact colC_bd _ _ _ _ _ _ _ _
  · omega

set_option maxHeartbeats 4000000 in
theorem subRead_any (a b c d r a' b' c' d' x y : Int) (vy vb vr : Value) (ys bs rs : List Int) (w : World) (h : PlainY a b c d r) (h1 : RdI w vy ys) (h2 : RdI w vb bs) (h3 : RdI w vr rs) :
    Calls Try.prog 14 #[box4 a b c d, .int .i64 r, vy, vb, vr, box4 a' b' c' d', .int .i64 x, .int .i64 y] w fun e w' => e = .returned (.agg #[.int .i64 (partY a b c d a' b' c' d' ys x y), .int .i64 (partC a b c d r a' b' c' d' bs x y), .int .i64 (partC a b c d r a' b' c' d' rs x y), .int .i64 0]) ∧ Grows w w' := by
  have H1 := Lib.hid h1
  have H2 := Lib.hid h2
  have H3 := Lib.hid h3
  have HH := Lib.hid h
  have has := assert_imgY
  obtain ⟨A1, c1, rfl, _⟩ := h1
  obtain ⟨A2, c2, rfl, _⟩ := h2
  obtain ⟨A3, c3, rfl, _⟩ := h3
  clear h
  have HGW : Hid (∀ (o1 o2 o3 : Obj), Grows w (((w.alloc o1).alloc o2).alloc o3)) := fun _ _ _ => (((Grows.rfl' w).alloc' _).alloc' _).alloc' _
  go_enter Try.func14, Try.ntmps14
  go_wp2_with fail
  refine (mkY_any a b c d r _ _ _ ys bs rs _ HH.out (H1.out.grows (HGW.out _ _ _)) (H2.out.grows (HGW.out _ _ _)) (H3.out.grows (HGW.out _ _ _))).mono ?_
  rintro e w1 ⟨ib, pb, rfl, _, _, him, hpx, hg1⟩
  have HSC := Lib.hid (fun W (hW : Grows w1 W) => subRead_at a b c d r a' b' c' d' x y ys bs rs W ib pb HH.out (him.grows hW) (hpx.grows hW))
  have HCB : Hid (Blk4 w1 (w.heap.size + 1 + 1) 34 0 0 0 0) := (hg1.block _ (by simp)).trans (heap_top (by simp))
  have hgt := ((Grows.rfl' _).alloc' _).step hg1
  have k0 : w1.cell? ⟨w.heap.size + 1, 0, none⟩ = some (.int .i64 a') := hgt.cell_some (cell_top (by simp) rfl)
  have k1 : w1.cell? ⟨w.heap.size + 1, 1, none⟩ = some (.int .i64 b') := hgt.cell_some (cell_top (by simp) rfl)
  have k2 : w1.cell? ⟨w.heap.size + 1, 2, none⟩ = some (.int .i64 c') := hgt.cell_some (cell_top (by simp) rfl)
  have k3 : w1.cell? ⟨w.heap.size + 1, 3, none⟩ = some (.int .i64 d') := hgt.cell_some (cell_top (by simp) rfl)
  have HG : Hid (Grows w w1) := (HGW.out _ _ _).step hg1
  have b1 := partY_bd a b c d a' b' c' d' ys x y
  have b2 := partC_bd a b c d r a' b' c' d' bs x y
  have b3 := partC_bd a b c d r a' b' c' d' rs x y
  clear him hpx hg1 hgt H1 H2 H3
  go_wp2_with fail
  refine (rectangle_any _ _ _ _ _).mono ?_
  rintro e w2 ⟨rfl, hg2⟩
  replace HSC := Lib.hid (HSC.out _ hg2)
  replace HCB := Lib.hid (HCB.out.grows hg2)
  replace HG := Lib.hid (HG.out.step hg2)
  clear k0 k1 k2 k3 hg2
  go_wp2_with fail
  refine HSC.out.mono ?_
  rintro e w3 ⟨ib', rfl, hg3, hat⟩
  have HAT := Lib.hid (hat w3 (Grows.rfl' _))
  replace HCB := Lib.hid (HCB.out.grows hg3)
  replace HG := Lib.hid (HG.out.step hg3)
  clear hg3 hat HSC
  go_wp2_with fail
  refine HAT.out.mono ?_
  rintro e w4 ⟨rfl, hg4⟩
  replace HCB := Lib.hid (HCB.out.grows hg4)
  replace HG := Lib.hid (HG.out.step hg4)
  clear hg4 HAT
  go_wp2_with fail
  refine (fromY_any _ _ _ _ b1 b2 b3).mono ?_
  rintro e w5 ⟨rfl, hg5⟩
  replace HCB := Lib.hid (HCB.out.grows hg5)
  replace HG := Lib.hid (HG.out.step hg5)
  obtain ⟨l0, l1, l2, l3⟩ := HCB.out.cells
  have lf := HCB.out.frozen
  clear hg5
  go_wp2_with fail
  refine bodyPost_ret (v := .agg #[.int .i64 (partY a b c d a' b' c' d' ys x y), .int .i64 (partC a b c d r a' b' c' d' bs x y), .int .i64 (partC a b c d r a' b' c' d' rs x y), .int .i64 0]) (by simp [results, Try.results14, go_sem, l0, l1, l2, l3]) rfl ⟨rfl, ?_⟩
  iterate 4 refine Grows.set' ?_ (by dsimp only; omega) _
  exact HG.out
end Go.Proofs.Ytbmpjehahimelaa

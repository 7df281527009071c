/-
  Contract of the thin package's YCbCrSub; planes in a box that is made beside them. Conditions stand in each theorem.
-/
import Derived.Test.YtbmpjehahimelaaYSub
namespace Go.Proofs.Ytbmpjehahimelaa
open Go.RowKit
set_option linter.unusedVariables false

set_option maxRecDepth 20000 in
set_option maxHeartbeats 4000000 in
theorem implSubY_end (a b c d r a' b' c' d' ys cs r' A B C D : Int) (vy vb vr : Value) (zy zb zr L1 L2 L3 : List Int) (w : World) (h : PlainY a b c d r) (h1 : RdI w vy zy) (h2 : RdI w vb zb) (h3 : RdI w vr zr)
    (hsub : ∀ (w1 : World) (ib pb : Nat), ImgY w1 ib (.slice (some ⟨pb, 0, none⟩) (nY a b c d) (nY a b c d)) (.slice (some ⟨pb, nY a b c d, none⟩) (nC a b c d r) (nC a b c d r)) (.slice (some ⟨pb, nY a b c d + nC a b c d r, none⟩) (nC a b c d r) (nC a b c d r)) (c - a) (acr a c (hsp r)) r a b c d → Px w1 pb (nY a b c d + nC a b c d r + nC a b c d r) (plF (nY a b c d) (nC a b c d r) zy zb zr) →
      Calls Try.prog 20 #[.pointer (some ⟨ib, 0, none⟩), box4 a' b' c' d'] w1 fun e w' => ∃ ib' u1 u2 u3, e = .returned (.iface 45 (.pointer (some ⟨ib', 0, none⟩))) ∧ ImgY w' ib' u1 u2 u3 ys cs r' A B C D ∧ RdB w' u1 L1 ∧ RdB w' u2 L2 ∧ RdB w' u3 L3 ∧ Grows w1 w') :
    Calls Try.prog 10 #[box4 a b c d, .int .i64 r, vy, vb, vr, box4 a' b' c' d'] w (NewPl A B C D ys cs r' L1 L2 L3 w) := by
  have H1 := Lib.hid h1
  have H2 := Lib.hid h2
  have H3 := Lib.hid h3
  have HH := Lib.hid h
  have HS := Lib.hid hsub
  have has := assert_imgY
  obtain ⟨A1, c1, rfl, _⟩ := h1
  obtain ⟨A2, c2, rfl, _⟩ := h2
  obtain ⟨A3, c3, rfl, _⟩ := h3
  clear h hsub
  have HGW : Hid (∀ (o1 o2 o3 : Obj), Grows w (((w.alloc o1).alloc o2).alloc o3)) := fun _ _ _ => (((Grows.rfl' w).alloc' _).alloc' _).alloc' _
  go_enter Try.func10, Try.ntmps10
  go_wp2_with fail
  refine (mkY_any a b c d r _ _ _ zy zb zr _ HH.out (H1.out.grows (HGW.out _ _ _)) (H2.out.grows (HGW.out _ _ _)) (H3.out.grows (HGW.out _ _ _))).mono ?_
  rintro e w1 ⟨ib, pb, rfl, _, _, him, hpx, hg1⟩
  have HSC := Lib.hid (fun W (hW : Grows w1 W) => HS.out W ib pb (him.grows hW) (hpx.grows hW))
  have hbl1 : w1.heap[w.heap.size + 1 + 1]? = some (.cells #[.int .i64 0, .int .i64 0, .int .i64 0, .int .i64 0, .int .i64 0, .int .i64 0, .int .i64 0, .slice none 0 0, .slice none 0 0, .slice none 0 0] 31 (0, 0)) := (hg1.block _ (by simp)).trans (heap_top (by simp))
  have HPB := Lib.hid hbl1
  have hgt := ((Grows.rfl' _).alloc' _).step hg1
  have k0 : w1.cell? ⟨w.heap.size + 1, 0, none⟩ = some (.int .i64 a') := hgt.cell_some (cell_top (by simp) rfl)
  have k1 : w1.cell? ⟨w.heap.size + 1, 1, none⟩ = some (.int .i64 b') := hgt.cell_some (cell_top (by simp) rfl)
  have k2 : w1.cell? ⟨w.heap.size + 1, 2, none⟩ = some (.int .i64 c') := hgt.cell_some (cell_top (by simp) rfl)
  have k3 : w1.cell? ⟨w.heap.size + 1, 3, none⟩ = some (.int .i64 d') := hgt.cell_some (cell_top (by simp) rfl)
  have HG : Hid (Grows w w1) := (HGW.out _ _ _).step hg1
  have hsz1 : w.heap.size + 1 + 1 < w1.heap.size := (Array.getElem?_eq_some_iff.1 hbl1).1
  clear him hpx hg1 hgt hbl1 H1 H2 H3 HS
  go_wp2_with fail
  refine (rectangle_any _ _ _ _ _).mono ?_
  rintro e w2 ⟨rfl, hg2⟩
  replace HSC := Lib.hid (HSC.out _ hg2)
  replace HPB : Hid (w2.heap[w.heap.size + 1 + 1]? = some (.cells #[.int .i64 0, .int .i64 0, .int .i64 0, .int .i64 0, .int .i64 0, .int .i64 0, .int .i64 0, .slice none 0 0, .slice none 0 0, .slice none 0 0] 31 (0, 0))) := (hg2.block _ hsz1).trans HPB.out
  replace HG := Lib.hid (HG.out.step hg2)
  have hsz2 : w.heap.size + 1 + 1 < w2.heap.size := (Array.getElem?_eq_some_iff.1 HPB.out).1
  clear k0 k1 k2 k3 hg2 hsz1
  go_wp2_with fail
  refine HSC.out.mono ?_
  rintro e w3 ⟨ib', u1, u2, u3, rfl, him', r1, r2, r3, hg3⟩
  have HPL := Lib.hid (planes_any ib' _ _ _ _ _ _ A B C D _ _ _ w3 him' r1 r2 r3)
  replace HPB : Hid (w3.heap[w.heap.size + 1 + 1]? = some (.cells #[.int .i64 0, .int .i64 0, .int .i64 0, .int .i64 0, .int .i64 0, .int .i64 0, .int .i64 0, .slice none 0 0, .slice none 0 0, .slice none 0 0] 31 (0, 0))) := (hg3.block _ hsz2).trans HPB.out
  replace HG := Lib.hid (HG.out.step hg3)
  have hsz3 : w.heap.size + 1 + 1 < w3.heap.size := (Array.getElem?_eq_some_iff.1 HPB.out).1
  clear him' r1 r2 r3 hg3 HSC hsz2
  go_wp2_with fail
  refine HPL.out.mono ?_
  rintro e w4 ⟨v, rfl, p1, p2, p3, rfl, ho1, ho2, ho3⟩
  obtain ⟨B1, e1, rfl⟩ := OwnI.form ho1
  obtain ⟨B2, e2, rfl⟩ := OwnI.form ho2
  obtain ⟨B3, e3, rfl⟩ := OwnI.form ho3
  have hbl : w4.heap[w.heap.size + 1 + 1]? = some (.cells #[.int .i64 0, .int .i64 0, .int .i64 0, .int .i64 0, .int .i64 0, .int .i64 0, .int .i64 0, .slice none 0 0, .slice none 0 0, .slice none 0 0] 31 (0, 0)) := (ho1.2.block _ hsz3).trans HPB.out
  have kc : ∀ (i : Nat) (u : Value), (#[.int .i64 0, .int .i64 0, .int .i64 0, .int .i64 0, .int .i64 0, .int .i64 0, .int .i64 0, .slice none 0 0, .slice none 0 0, .slice none 0 0] : Array Value)[i]? = some u → w4.cell? ⟨w.heap.size + 1 + 1, i, none⟩ = some u := fun i u hu => by simpa [World.cell?, hbl] using hu
  have k0 := kc 0 _ rfl
  have k1 := kc 1 _ rfl
  have k2 := kc 2 _ rfl
  have k3 := kc 3 _ rfl
  have k4 := kc 4 _ rfl
  have k5 := kc 5 _ rfl
  have k6 := kc 6 _ rfl
  have k7 := kc 7 _ rfl
  have k8 := kc 8 _ rfl
  have k9 := kc 9 _ rfl
  have kf : ∀ i, w4.frozen? ⟨w.heap.size + 1 + 1, i, none⟩ = false := fun i => by simp [World.frozen?, hbl]
  have HX1 := Lib.hid (OwnX.start ho1 HG.out)
  have HX2 := Lib.hid (OwnX.start ho2 HG.out)
  have HX3 := Lib.hid (OwnX.start ho3 HG.out)
  clear ho1 ho2 ho3 hbl kc HPB HPL
  go_wp2_with fail
  refine bodyPost_ret (v := .agg #[.int .i64 A, .int .i64 B, .int .i64 C, .int .i64 D, .int .i64 ys, .int .i64 cs, .int .i64 r', .slice B1 L1.length e1, .slice B2 L2.length e2, .slice B3 L3.length e3]) (by simp [results, Try.results10, go_sem, k0, k1, k2, k3, k4, k5, k6, k7, k8, k9]) rfl ⟨_, rfl, _, _, _, rfl, ?_, ?_, ?_⟩
  · refine OwnX.own (B := w3.heap.size) ?_ (by omega)
    iterate 10 refine OwnX.set ?_ (by omega) hsz3 _
    exact HX1.out
  · refine OwnX.own (B := w3.heap.size) ?_ (by omega)
    iterate 10 refine OwnX.set ?_ (by omega) hsz3 _
    exact HX2.out
  · refine OwnX.own (B := w3.heap.size) ?_ (by omega)
    iterate 10 refine OwnX.set ?_ (by omega) hsz3 _
    exact HX3.out

theorem implSubY_no (a b c d r a' b' c' d' : Int) (vy vb vr : Value) (zy zb zr : List Int) (w : World) (h : PlainY a b c d r) (h1 : RdI w vy zy) (h2 : RdI w vb zb) (h3 : RdI w vr zr) (hm : ¬ Meet a' b' c' d' a b c d) :
    Calls Try.prog 10 #[box4 a b c d, .int .i64 r, vy, vb, vr, box4 a' b' c' d'] w (NewPl 0 0 0 0 0 0 r [] [] [] w) := by
  refine implSubY_end a b c d r a' b' c' d' 0 0 r 0 0 0 0 vy vb vr zy zb zr [] [] [] w h h1 h2 h3 fun w1 ib pb hI hP => ?_
  refine (subY_no ib _ _ _ _ _ _ a b c d a' b' c' d' w1 hI hm).mono ?_
  rintro e w' ⟨ib', rfl, _, h2, h3⟩
  exact ⟨ib', _, _, _, rfl, h2, Rd.nil, Rd.nil, Rd.nil, h3⟩

theorem implSubY_yes (a b c d r a' b' c' d' : Int) (vy vb vr : Value) (zy zb zr : List Int) (w : World) (h : PlainY a b c d r) (h1 : RdI w vy zy) (h2 : RdI w vb zb) (h3 : RdI w vr zr) (hm : Meet a' b' c' d' a b c d) :
    Calls Try.prog 10 #[box4 a b c d, .int .i64 r, vy, vb, vr, box4 a' b' c' d'] w (NewPl (max a' a) (max b' b) (min c' c) (min d' d) (c - a) (acr a c (hsp r)) r
      (bytesOf (nY a b c d - yAt a b c (max a' a) (max b' b)) fun j => plF (nY a b c d) (nC a b c d r) zy zb zr (0 + yAt a b c (max a' a) (max b' b) + j))
      (bytesOf (nC a b c d r - cAt a b c r (max a' a) (max b' b)) fun j => plF (nY a b c d) (nC a b c d r) zy zb zr (nY a b c d + cAt a b c r (max a' a) (max b' b) + j))
      (bytesOf (nC a b c d r - cAt a b c r (max a' a) (max b' b)) fun j => plF (nY a b c d) (nC a b c d r) zy zb zr (nY a b c d + nC a b c d r + cAt a b c r (max a' a) (max b' b) + j)) w) := by
  have hn0 := h.nY_eq.2
  have hn1 := h.nC_eq.2
  have hcw := h.cw
  have hin : Inn a b c d (max a' a) (max b' b) := by obtain ⟨m1, m2⟩ := hm; unfold Inn; omega
  obtain ⟨hi, hil⟩ := h.yAt_eq hin
  obtain ⟨hk, hkl⟩ := h.cAt_eq hin
  refine implSubY_end a b c d r a' b' c' d' _ _ r _ _ _ _ vy vb vr zy zb zr _ _ _ w h h1 h2 h3 fun w1 ib pb hI hP => ?_
  obtain ⟨⟨⟨f1, f2⟩, ⟨f3, f4⟩, ⟨f5, f6⟩, ⟨f7, f8⟩⟩, ⟨g1, g2⟩, ⟨g3, g4⟩, ⟨r0, r5⟩⟩ := h
  refine (subY_yes ib pb _ _ _ _ _ _ _ _ _ _ r a b c d a' b' c' d' w1 hI hm r0 r5 g1 g2 (by omega) (by omega) (by omega) (by omega) (by omega) (by omega) (by omega) (by omega) hi hk hil hkl hkl (by omega) (by omega) (by omega)).mono ?_
  rintro e w' ⟨ib', rfl, _, h2, h3⟩
  exact ⟨ib', _, _, _, rfl, h2, (hP.grows h3).part (by omega) (by omega) (plF_in _ _ _ _ _), (hP.grows h3).part (by omega) (by omega) (plF_in _ _ _ _ _), (hP.grows h3).part (by omega) (by omega) (plF_in _ _ _ _ _), h3⟩

/-- A new box for planes, made since the world W. -/
def ZeroPl (W : World) (v : Value) (w : World) : Prop := ∃ pb, v = .pointer (some ⟨pb, 0, none⟩) ∧ W.heap.size ≤ pb ∧ w.heap[pb]? = some (.cells #[.int .i64 0, .int .i64 0, .int .i64 0, .int .i64 0, .int .i64 0, .int .i64 0, .int .i64 0, .slice none 0 0, .slice none 0 0, .slice none 0 0] 31 (0, 0))
theorem ZeroPl.keep {W : World} (v : Value) (w w' : World) (hg : Grows w w') (h : ZeroPl W v w) : ZeroPl W v w' := by
  obtain ⟨pb, h1, h2, h3⟩ := h
  exact ⟨pb, h1, h2, (hg.block pb (Array.getElem?_eq_some_iff.1 h3).1).trans h3⟩
/-- The world behind the store of planes into such a box. -/
def storedP (w : World) (pb : Nat) (v0 v1 v2 v3 v4 v5 v6 v7 v8 v9 : Value) : World :=
  (((((((((w.setCell ⟨pb, 0, none⟩ v0).setCell ⟨pb, 1, none⟩ v1).setCell ⟨pb, 2, none⟩ v2).setCell ⟨pb, 3, none⟩ v3).setCell ⟨pb, 4, none⟩ v4).setCell ⟨pb, 5, none⟩ v5).setCell ⟨pb, 6, none⟩ v6).setCell ⟨pb, 7, none⟩ v7).setCell ⟨pb, 8, none⟩ v8).setCell ⟨pb, 9, none⟩ v9
theorem storedP_block {w : World} {pb : Nat} {T : TypeId} (h : w.heap[pb]? = some (.cells #[.int .i64 0, .int .i64 0, .int .i64 0, .int .i64 0, .int .i64 0, .int .i64 0, .int .i64 0, .slice none 0 0, .slice none 0 0, .slice none 0 0] T (0, 0))) (v0 v1 v2 v3 v4 v5 v6 v7 v8 v9 : Value) :
    (storedP w pb v0 v1 v2 v3 v4 v5 v6 v7 v8 v9).heap[pb]? = some (.cells #[v0, v1, v2, v3, v4, v5, v6, v7, v8, v9] T (0, 0)) := by
  simp [storedP, World.setCell, Array.getElem?_modify, h]
theorem storedP_grows {W w : World} {pb : Nat} (h : Grows W w) (hp : W.heap.size ≤ pb) (v0 v1 v2 v3 v4 v5 v6 v7 v8 v9 : Value) : Grows W (storedP w pb v0 v1 v2 v3 v4 v5 v6 v7 v8 v9) := by
  unfold storedP
  iterate 10 refine Grows.set' ?_ hp _
  exact h
/-- Planes with these bounds. -/
def HasRectP (a b c d : Int) (v : Value) (w : World) : Prop := ∃ ys cs r p1 p2 p3, v = .agg #[.int .i64 a, .int .i64 b, .int .i64 c, .int .i64 d, .int .i64 ys, .int .i64 cs, .int .i64 r, p1, p2, p3]
theorem HasRectP.keep {a b c d : Int} (v : Value) (w w' : World) (hg : Grows w w') (h : HasRectP a b c d v w) : HasRectP a b c d v w' := h
theorem NewPl.hasRect {a b c d ys cs r : Int} {L1 L2 L3 : List Int} {W w : World} {e : Ending} (h : NewPl a b c d ys cs r L1 L2 L3 W e w) : ∃ v, e = .returned v ∧ Grows W w ∧ HasRectP a b c d v w := by
  obtain ⟨v, rfl, p1, p2, p3, rfl, ho, _⟩ := h
  exact ⟨_, rfl, ho.2, _, _, _, _, _, _, rfl⟩
theorem field_rectP (a b c d ys cs r : Int) (p1 p2 p3 : Value) (w : World) : (Instr.field 31 (.agg #[.int .i64 a, .int .i64 b, .int .i64 c, .int .i64 d, .int .i64 ys, .int .i64 cs, .int .i64 r, p1, p2, p3]) 0).run Try.prog w = .ok (box4 a b c d) w := by kernel_rfl
end Go.Proofs.Ytbmpjehahimelaa

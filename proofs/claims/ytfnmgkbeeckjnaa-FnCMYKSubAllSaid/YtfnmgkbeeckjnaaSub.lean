/-
  Contracts of the reference's Common, of the library's Intersect, Empty and of image.CMYK's SubImage at an image in memory, and of the thin package's CMYKSub. Conditions stand in each theorem.
-/
import Derived.Test.YtfnmgkbeeckjnaaSamePic
import Derived.Test.YtfnmgkbeeckjnaaFamAt
import Derived.Test.YtfnmgkbeeckjnaaInter
import Derived.Deep.Cut
namespace Go.Proofs.Ytfnmgkbeeckjnaa
open Go.RowKit
set_option linter.unusedVariables false

theorem assert_img (p : Addr) (w : World) : (Instr.typeAssert (.iface 62 (.pointer (some p))) 65 62 false).run Try.prog w = .ok (.pointer (some p)) w := by kernel_rfl

set_option maxHeartbeats 2000000 in
theorem sub_yes (ib pb o len i : Nat) (st a b c d a' b' c' d' : Int) (w : World) (hI : ImgAt w ib (.slice (some ⟨pb, o, none⟩) len len) st a b c d) (hm : Meet a' b' c' d' a b c d) (hx : c - a ≤ 1000) (hy : d - b ≤ 1000) (h5 : 0 ≤ st) (h6 : st ≤ 4000)
    (hi : (max b' b - b) * st + (max a' a - a) * 4 = (i : Int)) (hl : i < len) (hlm : len ≤ 17592186044416) :
    Calls Try.prog 37 #[.pointer (some ⟨ib, 0, none⟩), box4 a' b' c' d'] w fun e w' => ∃ ib', e = .returned (.iface 62 (.pointer (some ⟨ib', 0, none⟩))) ∧ w.heap.size ≤ ib' ∧ ImgAt w' ib' (.slice (some ⟨pb, o + i, none⟩) (len - i) (len - i)) st (max a' a) (max b' b) (min c' c) (min d' d) ∧ Grows w w' := by
  have HI := Lib.hid hI
  have HM := Lib.hid hm
  have HE := Lib.hid hi
  have hlt : ib < w.heap.size := hI.lt
  obtain ⟨hm1, hm2⟩ := hm
  have HB := Lib.hid (both_yes HM.out)
  have b1 : 0 ≤ max b' b - b := by omega
  have b2 : max b' b - b ≤ 1000 := by omega
  have b3 : 0 ≤ max a' a - a := by omega
  have b4 : max a' a - a ≤ 1000 := by omega
  clear hI hi HM
  go_enter Try.func37, Try.ntmps37
  go_wp2_with fail
  apply wp_region_lex_lit 6 (by kernel_rfl) (by kernel_rfl)
  iterate 5
    apply lex_pin
    · intro wq hgq hdq Kq hKq
      obtain ⟨q0, q1, q2, q3, q4, q5⟩ := (HI.out.grows (((Grows.rfl' _).alloc' _).drew'.step hgq)).cells
      obtain ⟨hcq, _⟩ := hgq.cells
      go_wp2
      exact hKq _ (Grows.rfl' _)
    · kernel_rfl
  apply lex_pin
  · intro wq hgq hdq Kq hKq
    go_wp2_with fail
    refine (intersect_any _ _ _ _ _ _ _ _ _).mono ?_
    rintro e wq' ⟨rfl, hgq'⟩
    rw [HB.out]
    go_wp2_with fail
    exact hKq _ hgq'
  · kernel_rfl
  refine lex_end ?_
  intro w3 hg3 _
  have hlt3 : w.heap.size < w3.heap.size := by have := hg3.size; simp at this; omega
  have KB : Hid (Blk4 w3 w.heap.size 70 a' b' c' d') := Blk4.grows (heap_top rfl) ((Grows.rfl' _).drew'.step hg3)
  have HI3 := Lib.hid (HI.out.grows (((Grows.rfl' _).alloc' _).drew'.step hg3))
  have HG3 : Hid (Grows w w3) := ((Grows.rfl' w).alloc' _).drew'.step hg3
  obtain ⟨k0, k1, k2, k3⟩ := KB.out.cells
  have kf := KB.out.frozen
  generalize hA : max a' a = A at *
  generalize hB : max b' b = B at *
  generalize hC : min c' c = C at *
  generalize hD : min d' d = D at *
  have HA := Lib.hid hA
  have HBB := Lib.hid hB
  have HC := Lib.hid hC
  have HD := Lib.hid hD
  clear hA hB hC hD
  have KS := Lib.hid ((((KB.out.set0 A).set1 B).set2 C).set3 D)
  have HGS : Hid (Grows w ((((w3.setCell ⟨w.heap.size, 0, none⟩ (.int .i64 A)).setCell ⟨w.heap.size, 1, none⟩ (.int .i64 B)).setCell ⟨w.heap.size, 2, none⟩ (.int .i64 C)).setCell ⟨w.heap.size, 3, none⟩ (.int .i64 D))) := (((HG3.out.set' (by simp) _).set' (by simp) _).set' (by simp) _).set' (by simp) _
  clear hg3
  go_upto_region 2 with fail
  generalize (((w3.setCell ⟨w.heap.size, 0, none⟩ (.int .i64 A)).setCell ⟨w.heap.size, 1, none⟩ (.int .i64 B)).setCell ⟨w.heap.size, 2, none⟩ (.int .i64 C)).setCell ⟨w.heap.size, 3, none⟩ (.int .i64 D) = w4 at *
  clear HI3 HG3 KB k0 k1 k2 k3 kf hlt3
  obtain ⟨k0, k1, k2, k3⟩ := KS.out.cells
  go_wp2_with fail
  refine (emp_no _ _ _ _ _ hm1 hm2).mono ?_
  rintro e w5 ⟨rfl, hg5⟩
  replace KS := Lib.hid (KS.out.grows hg5)
  replace HGS := Lib.hid (HGS.out.step hg5)
  clear k0 k1 k2 k3 hg5
  obtain ⟨k0, k1, k2, k3⟩ := KS.out.cells
  go_wp2_with fail
  refine (pixOffset_in ib i _ st a b c d A B _ (HI.out.grows HGS.out) b1 b2 b3 b4 h5 h6 HE.out).mono ?_
  rintro e w6 ⟨rfl, hg6⟩
  replace KS := Lib.hid (KS.out.grows hg6)
  replace HGS := Lib.hid (HGS.out.step hg6)
  clear k0 k1 k2 k3 hg6
  have l1 : (i : Int) ≤ (len : Int) := by omega
  have l2 : ¬ len = i := by omega
  go_wp2_with fail
  apply wp_region_lex_lit 12 (by kernel_rfl) (by kernel_rfl)
  iterate 12
    apply lex_pin
    · intro wq hgq hdq Kq hKq
      obtain ⟨q0, q1, q2, q3, q4, q5⟩ := (HI.out.grows (HGS.out.drew'.step hgq)).cells
      obtain ⟨k0, k1, k2, k3⟩ := (KS.out.grows ((Grows.rfl' _).drew'.step hgq)).cells
      go_wp2
      exact hKq _ (Grows.rfl' _)
    · kernel_rfl
  refine lex_end ?_
  intro w7 hg7 _
  have HG7 := Lib.hid (HGS.out.drew'.step hg7)
  clear hg7
  go_wp2_with fail
  go_ret
  exact ⟨w7.heap.size, rfl, HG7.out.size, by rw [HA.out, HBB.out, HC.out, HD.out]; exact heap_alloc_new _ _, HG7.out.alloc' _⟩

set_option maxHeartbeats 2000000 in
theorem sub_no (ib : Nat) (pv : Value) (st a b c d a' b' c' d' : Int) (w : World) (hI : ImgAt w ib pv st a b c d) (hm : ¬ Meet a' b' c' d' a b c d) :
    Calls Try.prog 37 #[.pointer (some ⟨ib, 0, none⟩), box4 a' b' c' d'] w fun e w' => ∃ ib', e = .returned (.iface 62 (.pointer (some ⟨ib', 0, none⟩))) ∧ w.heap.size ≤ ib' ∧ ImgAt w' ib' (.slice none 0 0) 0 0 0 0 0 ∧ Grows w w' := by
  have HI := Lib.hid hI
  have hlt : ib < w.heap.size := hI.lt
  have HB := Lib.hid (both_no hm)
  clear hI hm
  go_enter Try.func37, Try.ntmps37
  go_wp2_with fail
  apply wp_region_lex_lit 6 (by kernel_rfl) (by kernel_rfl)
  iterate 5
    apply lex_pin
    · intro wq hgq hdq Kq hKq
      obtain ⟨q0, q1, q2, q3, q4, q5⟩ := (HI.out.grows (((Grows.rfl' _).alloc' _).drew'.step hgq)).cells
      obtain ⟨hcq, _⟩ := hgq.cells
      go_wp2
      exact hKq _ (Grows.rfl' _)
    · kernel_rfl
  apply lex_pin
  · intro wq hgq hdq Kq hKq
    go_wp2_with fail
    refine (intersect_any _ _ _ _ _ _ _ _ _).mono ?_
    rintro e wq' ⟨rfl, hgq'⟩
    rw [HB.out]
    go_wp2_with fail
    exact hKq _ hgq'
  · kernel_rfl
  refine lex_end ?_
  intro w3 hg3 _
  have KB : Hid (Blk4 w3 w.heap.size 70 a' b' c' d') := Blk4.grows (heap_top rfl) ((Grows.rfl' _).drew'.step hg3)
  have HG3 : Hid (Grows w w3) := ((Grows.rfl' w).alloc' _).drew'.step hg3
  obtain ⟨k0, k1, k2, k3⟩ := KB.out.cells
  have kf := KB.out.frozen
  have KS := Lib.hid ((((KB.out.set0 0).set1 0).set2 0).set3 0)
  have HGS : Hid (Grows w ((((w3.setCell ⟨w.heap.size, 0, none⟩ (.int .i64 0)).setCell ⟨w.heap.size, 1, none⟩ (.int .i64 0)).setCell ⟨w.heap.size, 2, none⟩ (.int .i64 0)).setCell ⟨w.heap.size, 3, none⟩ (.int .i64 0))) := (((HG3.out.set' (by simp) _).set' (by simp) _).set' (by simp) _).set' (by simp) _
  clear hg3
  go_upto_region 2 with fail
  generalize (((w3.setCell ⟨w.heap.size, 0, none⟩ (.int .i64 0)).setCell ⟨w.heap.size, 1, none⟩ (.int .i64 0)).setCell ⟨w.heap.size, 2, none⟩ (.int .i64 0)).setCell ⟨w.heap.size, 3, none⟩ (.int .i64 0) = w4 at *
  clear HG3 KB k0 k1 k2 k3 kf
  obtain ⟨k0, k1, k2, k3⟩ := KS.out.cells
  go_wp2_with fail
  refine (emp_yes _ _ _ _ _ (by omega)).mono ?_
  rintro e w5 ⟨rfl, hg5⟩
  have HG5 := Lib.hid (HGS.out.step hg5)
  clear hg5
  go_wp2_with fail
  go_ret
  exact ⟨w5.heap.size, rfl, HG5.out.size, heap_alloc_new _ _, HG5.out.alloc' _⟩

/-- Bytes from a place on. -/
theorem bytes_from {n i : Nat} {f : Nat → Int} {w : World} {pb : Nat} (hP : Px w pb n f) (hi : i ≤ n) (hn : n ≤ 17592186044416) (hf : ∀ j, 0 ≤ f j ∧ f j ≤ 255) : RdB w (.slice (some ⟨pb, 0 + i, none⟩) (n - i) (n - i)) (bytesOf (n - i) fun j => f (i + j)) := by
  have h := hP.rd (o := 0 + i) (bytesOf (n - i) fun j => f (i + j)) (n - i) (by rw [bytesOf_length]; omega) (by omega) (by rw [bytesOf_length]; omega) (bytesOf_in fun j _ => hf _) (by rw [bytesOf_length]; omega) (fun j m hj => by
    have := (bytesOf_get hj).2
    rw [Nat.zero_add]
    exact this)
  rw [bytesOf_length] at h
  exact h

set_option maxHeartbeats 2000000 in
theorem implSub_end (a b c d a' b' c' d' st A B C D : Int) (v pv : Value) (zs L : List Int) (w : World) (hf : Fine a b c d) (h : RdI w v zs)
    (hsub : ∀ (w1 : World) (ib pb : Nat), ImgAt w1 ib (.slice (some ⟨pb, 0, none⟩) (total a b c d 4) (total a b c d 4)) (sd a c 4) a b c d → Px w1 pb (total a b c d 4) (byteAt zs) →
      Calls Try.prog 37 #[.pointer (some ⟨ib, 0, none⟩), box4 a' b' c' d'] w1 fun e w' => ∃ ib' A0 n0 m0, e = .returned (.iface 62 (.pointer (some ⟨ib', 0, none⟩))) ∧ ImgAt w' ib' (.slice A0 n0 m0) st A B C D ∧ RdB w' (.slice A0 n0 m0) L ∧ Grows w1 w') :
    Calls Try.prog 26 #[box4 a b c d, v, box4 a' b' c' d'] w (NewPic A B C D st L w) := by
  have HR := Lib.hid h
  have HF := Lib.hid hf
  have HS := Lib.hid hsub
  have has := assert_img
  obtain ⟨A1, cc, rfl, _⟩ := h
  clear hf hsub
  go_enter Try.func26, Try.ntmps26
  go_wp2_with fail
  refine (mk_any _ _ _ _ _ zs _ HF.out (HR.out.grows ((((Grows.rfl' w).alloc' _).alloc' _).alloc' _))).mono ?_
  rintro e w1 ⟨ib, pb, rfl, hib, hpb, him, hpx, hg1⟩
  have HSC := Lib.hid (fun W (hW : Grows w1 W) => HS.out W ib pb (him.grows hW) (hpx.grows hW))
  have HGB := Lib.hid hg1
  have hgt := ((Grows.rfl' _).alloc' _).step hg1
  have c0 : w1.cell? ⟨w.heap.size + 1, 0, none⟩ = some (.int .i64 a') := hgt.cell_some (cell_top (by simp) rfl)
  have c1 : w1.cell? ⟨w.heap.size + 1, 1, none⟩ = some (.int .i64 b') := hgt.cell_some (cell_top (by simp) rfl)
  have c2 : w1.cell? ⟨w.heap.size + 1, 2, none⟩ = some (.int .i64 c') := hgt.cell_some (cell_top (by simp) rfl)
  have c3 : w1.cell? ⟨w.heap.size + 1, 3, none⟩ = some (.int .i64 d') := hgt.cell_some (cell_top (by simp) rfl)
  clear him hpx hg1 HR HS hgt
  go_wp2_with fail
  refine (rectangle_any _ _ _ _ _).mono ?_
  rintro e w2 ⟨rfl, hg2⟩
  replace HSC := Lib.hid (HSC.out _ hg2)
  replace HGB := Lib.hid (HGB.out.step hg2)
  clear c0 c1 c2 c3 hg2
  go_wp2_with fail
  refine HSC.out.mono ?_
  rintro e w3 ⟨ib', A0, n0, m0, rfl, him', hrd, hg3⟩
  replace HGB := Lib.hid (HGB.out.step hg3)
  have HI := Lib.hid him'
  have HRD := Lib.hid hrd
  have hsz : w.heap.size + 2 < w3.heap.size := by have := HGB.out.size; simp at this; omega
  clear him' hrd hg3 HSC HF
  go_wp2_with fail
  apply wp_region_lex_lit 13 (by kernel_rfl) (by kernel_rfl)
  iterate 12
    apply lex_pin
    · intro wq hgq hdq Kq hKq
      obtain ⟨q0, q1, q2, q3, q4, q5⟩ := (HI.out.grows ((Grows.rfl' _).drew'.step hgq)).cells
      go_wp2
      exact hKq _ (Grows.rfl' _)
    · kernel_rfl
  apply lex_any (fun v wx => ∃ v', v = .agg #[.int .i64 A, .int .i64 B, .int .i64 C, .int .i64 D, .int .i64 st, v'] ∧ OwnI w3 wx v' L) ((fun v x y hg ⟨v', h1, h2⟩ => ⟨v', h1, h2.later hg⟩))
  · intro wq hgq hdq Kq hKq
    go_wp2_with fail
    refine (picture_any _ _ _ _ _ _ _ _ (HRD.out.grows ((Grows.rfl' _).drew'.step hgq))).mono ?_
    rintro e wq' ⟨v', rfl, ho⟩
    go_wp2_with fail
    exact hKq _ _ ho.2 ⟨v', rfl, ho.base ((Grows.rfl' _).drew'.step hgq)⟩
  intro v19
  simp only [Act.put, List.setIfInBounds_toArray, List.set_cons_succ, List.set_cons_zero]
  refine lex_end ?_
  intro w4 hg4 hd4
  obtain ⟨v', rfl, ho⟩ := hd4 12 _ rfl
  clear hd4
  obtain ⟨A2, c2, rfl⟩ := ho.form
  have HX := Lib.hid (OwnX.start ho ((((Grows.rfl' w).alloc' _).alloc' _).alloc' _ |>.step HGB.out))
  have hg5 := HGB.out.drew'.step hg4
  obtain ⟨hcq, hfq⟩ := hg5.cells
  clear hg4 ho hg5 HI HRD HGB
  go_wp2_with fail
  refine bodyPost_ret (v := .agg #[.int .i64 A, .int .i64 B, .int .i64 C, .int .i64 D, .int .i64 st, .slice A2 L.length c2]) (by simp [results, Try.results26, go_sem, hcq]) rfl ⟨_, rfl, ?_⟩
  refine OwnX.own (B := w3.heap.size) ?_ (by omega)
  iterate 6 refine OwnX.set ?_ (by omega) hsz _
  exact HX.out

theorem implSub_no (a b c d a' b' c' d' : Int) (v : Value) (zs : List Int) (w : World) (hf : Fine a b c d) (h : RdI w v zs) (hm : ¬ Meet a' b' c' d' a b c d) : Calls Try.prog 26 #[box4 a b c d, v, box4 a' b' c' d'] w (NewPic 0 0 0 0 0 [] w) := by
  refine implSub_end a b c d a' b' c' d' 0 0 0 0 0 v v zs [] w hf h fun w1 ib pb hI hP => ?_
  refine (sub_no ib _ _ a b c d a' b' c' d' w1 hI hm).mono ?_
  rintro e w' ⟨ib', rfl, h1, h2, h3⟩
  exact ⟨ib', none, 0, 0, rfl, h2, Rd.nil, h3⟩

theorem implSub_yes (a b c d a' b' c' d' : Int) (v : Value) (zs : List Int) (i : Nat) (w : World) (hf : Fine a b c d) (h : RdI w v zs) (hm : Meet a' b' c' d' a b c d) (hi : (max b' b - b) * sd a c 4 + (max a' a - a) * 4 = (i : Int)) (hl : i < total a b c d 4) :
    Calls Try.prog 26 #[box4 a b c d, v, box4 a' b' c' d'] w (NewPic (max a' a) (max b' b) (min c' c) (min d' d) (sd a c 4) (bytesOf (total a b c d 4 - i) fun j => byteAt zs (i + j)) w) := by
  have htl := total_le (k := 4) (by omega) hf
  have hsd := sd_in (k := 4) (by omega) hf
  refine implSub_end a b c d a' b' c' d' _ _ _ _ _ v v zs _ w hf h fun w1 ib pb hI hP => ?_
  obtain ⟨_, _, ⟨f5, f6⟩, ⟨f7, f8⟩⟩ := hf
  refine (sub_yes ib pb 0 _ i _ a b c d a' b' c' d' w1 hI hm (by omega) (by omega) hsd.1 hsd.2 hi hl (by omega)).mono ?_
  rintro e w' ⟨ib', rfl, h1, h2, h3⟩
  exact ⟨ib', _, _, _, rfl, h2, bytes_from (hP.grows h3) (by omega) (by omega) (byteAt_in zs), h3⟩
end Go.Proofs.Ytfnmgkbeeckjnaa

/-
  Contracts of image.CMYK's SetCMYK at an image in memory, of the thin package's conversion of a color, and of its CMYKWrite. Conditions stand in each theorem.
-/
import Derived.Test.YtbedollfokdldaaFamAt
import Derived.Test.YtbedollfokdldaaPutF
import Derived.Test.YtbedollfokdldaaSamePic
namespace Go.Proofs.Ytbedollfokdldaa
open Go.RowKit
set_option linter.unusedVariables false

set_option maxHeartbeats 400000 in
theorem asColor_any (a b c d : Int) (w : World) : Calls Try.prog 21 #[box4 a b c d] w fun e w' => e = .returned (box4 a b c d) ∧ Grows w w' := by
  go_enter Try.func21, Try.ntmps21
  go_wp2
  exact bodyPost_ret (v := box4 a b c d) (by simp [results, Try.results21, go_sem]) rfl ⟨rfl, ((Grows.rfl' _).alloc' _).alloc' _⟩

set_option maxHeartbeats 400000 in
theorem col_any (n0 n1 n2 n3 : Int) (w : World) : Calls Try.prog 31 #[box4 n0 n1 n2 n3] w fun e w' => e = .returned (.agg #[.int .u8 (n0 % 256), .int .u8 (n1 % 256), .int .u8 (n2 % 256), .int .u8 (n3 % 256)]) ∧ Grows w w' := by
  go_enter Try.func31, Try.ntmps31
  go_wp2
  exact bodyPost_ret (v := .agg #[.int .u8 (n0 % 256), .int .u8 (n1 % 256), .int .u8 (n2 % 256), .int .u8 (n3 % 256)]) (by simp [results, Try.results31, go_sem]) rfl ⟨rfl, ((Grows.rfl' _).alloc' _).alloc' _⟩

set_option maxHeartbeats 1000000 in
theorem lowColor_any (a b c d : Int) (w : World) : Calls Try.prog 22 #[box4 a b c d] w fun e w' => e = .returned (box4 (a % 256) (b % 256) (c % 256) (d % 256)) ∧ Grows w w' := by
  go_enter Try.func22, Try.ntmps22
  go_wp2_with fail
  apply wp_region_lex_lit 13 (by kernel_rfl) (by kernel_rfl)
  iterate 13
    apply lex_pin
    · intro wq hgq hdq Kq hKq
      obtain ⟨hcq, _⟩ := hgq.cells
      go_wp2_with ((go_at_call 39; refine (low_g _ _).mono ?_); rintro e wq' ⟨rfl, hgq'⟩)
      first | exact hKq _ (Grows.rfl' _) | exact hKq _ hgq'
    · kernel_rfl
  refine lex_end ?_
  intro w3 hg3 _
  obtain ⟨hcq, hfq⟩ := hg3.cells
  have HG3 : Hid (Grows w w3) := (((Grows.rfl' w).alloc' _).alloc' _).drew'.step hg3
  clear hg3
  go_wp2_with fail
  refine bodyPost_ret (v := box4 (a % 256) (b % 256) (c % 256) (d % 256)) (by simp [results, Try.results22, go_sem, hcq]) rfl ⟨rfl, ?_⟩
  iterate 4 refine Grows.set' ?_ (by simp) _
  exact HG3.out

theorem put4 (f : Nat → Int) (p j : Nat) (n0 n1 n2 n3 : Int) : (if j = p + 3 then n3 else if j = p + 2 then n2 else if j = p + 1 then n1 else if j = p then n0 else f j) = putF f p [n0, n1, n2, n3] j := by
  by_cases h3 : j = p + 3
  · subst h3; simp [putF]
  · by_cases h2 : j = p + 2
    · subst h2; simp [putF]
    · by_cases h1 : j = p + 1
      · subst h1; simp [putF]
      · by_cases h0 : j = p
        · subst h0; simp [putF]
        · rw [if_neg h3, if_neg h2, if_neg h1, if_neg h0]
          unfold putF
          rw [if_neg (by simp; omega)]

set_option maxHeartbeats 2000000 in
theorem set_in (ib pb o len N i : Nat) (f : Nat → Int) (st a b c d x y n0 n1 n2 n3 : Int) (w : World) (hI : ImgAt w ib (.slice (some ⟨pb, o, none⟩) len len) st a b c d) (hP : Px w pb N f) (hin : Inn a b c d x y) (hx : c - a ≤ 1000) (hy : d - b ≤ 1000) (h5 : 0 ≤ st) (h6 : st ≤ 4000)
    (hi : (y - b) * st + (x - a) * 4 = (i : Int)) (hl : i + 4 ≤ len) (hN : o + len ≤ N) (hm : N ≤ 17592186044416) :
    Calls Try.prog 30 #[.pointer (some ⟨ib, 0, none⟩), .int .i64 x, .int .i64 y, .agg #[.int .u8 n0, .int .u8 n1, .int .u8 n2, .int .u8 n3]] w fun e w' => e = .returned (.tuple #[]) ∧ Px w' pb N (putF f (o + i) [n0, n1, n2, n3]) ∧ w.grownBy w' (some pb) := by
  have HI := Lib.hid hI
  have HP := Lib.hid hP
  have HIN := Lib.hid hin
  have HE := Lib.hid hi
  have k0 := hP.cell (i := o + i) (by omega)
  have k1 := hP.cell (i := o + i + 1) (by omega)
  have k2 := hP.cell (i := o + i + 2) (by omega)
  have k3 := hP.cell (i := o + i + 3) (by omega)
  have z0 := hP.frozen (o + i)
  have z1 := hP.frozen (o + i + 1)
  have z2 := hP.frozen (o + i + 2)
  have z3 := hP.frozen (o + i + 3)
  obtain ⟨q0, q1, q2, q3, q4, q5⟩ := hI.cells
  obtain ⟨i1, i2, i3, i4⟩ := hin
  generalize f (o + i) = u0 at *
  generalize f (o + i + 1) = u1 at *
  generalize f (o + i + 2) = u2 at *
  generalize f (o + i + 3) = u3 at *
  clear hI hi hP
  go_enter Try.func30, Try.ntmps30
  have hlt : ib < w.heap.size := cell_lt q0
  have hlt2 : pb < w.heap.size := cell_lt k0
  go_wp2_with fail
  refine (in_yes _ _ _ _ _ _ _ HIN.out).mono ?_
  rintro e w1 ⟨rfl, hg1⟩
  have HG1 : Hid (Grows w w1) := ((Grows.rfl' w).alloc' _).step hg1
  have HI1 := Lib.hid (HI.out.grows HG1.out)
  have hb0 : w1.cell? ⟨w.heap.size, 0, none⟩ = some (.int .u8 n0) := hg1.cell_some (by simp)
  have hb1 : w1.cell? ⟨w.heap.size, 1, none⟩ = some (.int .u8 n1) := hg1.cell_some (by simp)
  have hb2 : w1.cell? ⟨w.heap.size, 2, none⟩ = some (.int .u8 n2) := hg1.cell_some (by simp)
  have hb3 : w1.cell? ⟨w.heap.size, 3, none⟩ = some (.int .u8 n3) := hg1.cell_some (by simp)
  clear hg1
  go_wp2_with fail
  refine (pixOffset_in ib i _ st a b c d x y _ HI1.out (by omega) (by omega) (by omega) (by omega) h5 h6 HE.out).mono ?_
  rintro e w2 ⟨rfl, hg2⟩
  have hg02 := HG1.out.step hg2
  have HG2 := Lib.hid hg02
  obtain ⟨r0, r1, r2, r3, r4, r5⟩ := (HI.out.grows hg02).cells
  have b0 := hg2.cell_some hb0
  have b1 := hg2.cell_some hb1
  have b2 := hg2.cell_some hb2
  have b3 := hg2.cell_some hb3
  have m0 := hg02.cell_some k0
  have m1 := hg02.cell_some k1
  have m2 := hg02.cell_some k2
  have m3 := hg02.cell_some k3
  have y0 : w2.frozen? ⟨pb, o + i, none⟩ = false := (hg02.cells.2 pb _ hlt2).trans z0
  have y1 : w2.frozen? ⟨pb, o + i + 1, none⟩ = false := (hg02.cells.2 pb _ hlt2).trans z1
  have y2 : w2.frozen? ⟨pb, o + i + 2, none⟩ = false := (hg02.cells.2 pb _ hlt2).trans z2
  have y3 : w2.frozen? ⟨pb, o + i + 3, none⟩ = false := (hg02.cells.2 pb _ hlt2).trans z3
  clear hg2 hg02 hb0 hb1 hb2 hb3 q0 q1 q2 q3 q4 q5 k0 k1 k2 k3 z0 z1 z2 z3
  have e1 : Hid (((i : Int) + 4).toNat = i + 4) := by unfold Hid; omega
  have l1 : (i : Int) + 4 ≤ (len : Int) := by omega
  have l2 : ¬ len = i := by omega
  go_wp2_with fail
  go_end0
  refine ⟨rfl, ((((HP.out.grows HG2.out).set (o + i) n0).set (o + i + 1) n1).set (o + i + 2) n2 |>.set (o + i + 3) n3).congr (fun j _ => ?_), only_set (only_set (only_set (only_set (grown_of HG2.out) _ _) _ _) _ _) _ _⟩
  exact put4 f (o + i) j n0 n1 n2 n3

set_option maxHeartbeats 1000000 in
theorem set_out (ib : Nat) (pv : Value) (st a b c d x y n0 n1 n2 n3 : Int) (w : World) (hI : ImgAt w ib pv st a b c d) (hin : ¬ Inn a b c d x y) :
    Calls Try.prog 30 #[.pointer (some ⟨ib, 0, none⟩), .int .i64 x, .int .i64 y, .agg #[.int .u8 n0, .int .u8 n1, .int .u8 n2, .int .u8 n3]] w fun e w' => e = .returned (.tuple #[]) ∧ Grows w w' := by
  have HIN := Lib.hid hin
  obtain ⟨q0, q1, q2, q3, q4, q5⟩ := hI.cells
  have hlt : ib < w.heap.size := cell_lt q0
  clear hI hin
  go_enter Try.func30, Try.ntmps30
  go_wp2_with fail
  refine (in_no _ _ _ _ _ _ _ HIN.out).mono ?_
  rintro e w1 ⟨rfl, hg1⟩
  have HG1 : Hid (Grows w w1) := ((Grows.rfl' w).alloc' _).step hg1
  clear hg1
  go_wp2_with fail
  (try simp only [Exit.inBlock, Exit.then])
  refine bodyPost_ret (results_none rfl _ _ _) rfl ?_
  exact ⟨rfl, HG1.out⟩

set_option maxHeartbeats 2000000 in
theorem write_any (a b c d x y n0 n1 n2 n3 : Int) (v : Value) (zs : List Int) (w : World) (hf : Fine a b c d) (h : RdI w v zs) :
    Calls Try.prog 23 #[box4 a b c d, v, .int .i64 x, .int .i64 y, box4 n0 n1 n2 n3] w (NewPic a b c d (sd a c 4) (bytesOf (total a b c d 4) (wr a b c d 4 (byteAt zs) x y [n0 % 256, n1 % 256, n2 % 256, n3 % 256])) w) := by
  have HR := Lib.hid h
  have HF := Lib.hid hf
  have htl := total_le (k := 4) (by omega) hf
  have hsd := sd_in (k := 4) (by omega) hf
  obtain ⟨A, cc, rfl, _⟩ := h
  obtain ⟨⟨f1, f2⟩, ⟨f3, f4⟩, ⟨f5, f6⟩, ⟨f7, f8⟩⟩ := hf
  go_enter Try.func23, Try.ntmps23
  go_wp2_with fail
  refine (mk_any _ _ _ _ _ zs _ HF.out (HR.out.grows ((((Grows.rfl' w).alloc' _).alloc' _).alloc' _))).mono ?_
  rintro e w1 ⟨ib, pb, rfl, hib, hpb, him, hpx, hg1⟩
  have HI := Lib.hid him
  have HP := Lib.hid hpx
  have HGB := Lib.hid hg1
  have c0 : w1.cell? ⟨w.heap.size + 1, 0, none⟩ = some (.int .i64 n0) := (((Grows.rfl' _).alloc' _).step hg1).cell_some (by simp)
  have c1 : w1.cell? ⟨w.heap.size + 1, 1, none⟩ = some (.int .i64 n1) := (((Grows.rfl' _).alloc' _).step hg1).cell_some (by simp)
  have c2 : w1.cell? ⟨w.heap.size + 1, 2, none⟩ = some (.int .i64 n2) := (((Grows.rfl' _).alloc' _).step hg1).cell_some (by simp)
  have c3 : w1.cell? ⟨w.heap.size + 1, 3, none⟩ = some (.int .i64 n3) := (((Grows.rfl' _).alloc' _).step hg1).cell_some (by simp)
  clear him hpx hg1 HR
  have hset : ∀ W : World, Grows w1 W → Calls Try.prog 30 #[.pointer (some ⟨ib, 0, none⟩), .int .i64 x, .int .i64 y, .agg #[.int .u8 (n0 % 256), .int .u8 (n1 % 256), .int .u8 (n2 % 256), .int .u8 (n3 % 256)]] W fun e w' => e = .returned (.tuple #[]) ∧ Px w' pb (total a b c d 4) (wr a b c d 4 (byteAt zs) x y [n0 % 256, n1 % 256, n2 % 256, n3 % 256]) ∧ W.grownBy w' (some pb) := by
    intro W hW
    by_cases hin : Inn a b c d x y
    · obtain ⟨i, hi, hil⟩ := inside_at (k := 4) HF.out (by omega) hin
      refine (set_in ib pb 0 _ _ i _ _ a b c d x y _ _ _ _ _ (HI.out.grows hW) (HP.out.grows hW) hin (by omega) (by omega) (by omega) (by omega) hi hil (by omega) (by omega)).mono ?_
      rintro e w' ⟨rfl, h1, h2⟩
      refine ⟨rfl, ?_, h2⟩
      rw [wr_in hin hi]
      rw [Nat.zero_add] at h1
      exact h1
    · refine (set_out ib _ _ a b c d x y _ _ _ _ _ (HI.out.grows hW) hin).mono ?_
      rintro e w' ⟨rfl, h1⟩
      refine ⟨rfl, ?_, grown_of h1⟩
      rw [wr_out hin]
      exact (HP.out.grows hW).grows h1
  have HS := Lib.hid hset
  clear hset
  go_wp2_with fail
  refine (col_any _ _ _ _ _).mono ?_
  rintro e wc ⟨rfl, hgc⟩
  have HIC := Lib.hid (HI.out.grows hgc)
  have HPC := Lib.hid (HP.out.grows hgc)
  replace HGB := Lib.hid (HGB.out.step hgc)
  have HSC := Lib.hid (HS.out _ hgc)
  clear hgc c0 c1 c2 c3
  go_wp2_with fail
  refine HSC.out.mono ?_
  rintro e w2 ⟨rfl, hpx2, hgr⟩
  have HI2 := Lib.hid (HIC.out.kept hgr (HIC.out.apart HPC.out))
  have hg12 : Grows (((w.alloc (.cells #[.int .i64 a, .int .i64 b, .int .i64 c, .int .i64 d] 26)).alloc (.cells #[.int .i64 n0, .int .i64 n1, .int .i64 n2, .int .i64 n3] 46)).alloc (.cells #[.int .i64 0, .int .i64 0, .int .i64 0, .int .i64 0, .int .i64 0, .slice none 0 0] 34)) w2 := HGB.out.grown' hgr (fun k hk => by
    have e : pb = k := by simpa using hk
    omega)
  have HRD : Hid (RdB w2 (.slice (some ⟨pb, 0, none⟩) (total a b c d 4) (total a b c d 4)) (bytesOf (total a b c d 4) (wr a b c d 4 (byteAt zs) x y [n0 % 256, n1 % 256, n2 % 256, n3 % 256]))) := by
    have := hpx2.rd (o := 0) (bytesOf (total a b c d 4) (wr a b c d 4 (byteAt zs) x y [n0 % 256, n1 % 256, n2 % 256, n3 % 256])) (total a b c d 4) (by rw [bytesOf_length]; omega) (by omega) (by rw [bytesOf_length]; omega)
      (bytesOf_in (fun i _ => wr_in255 (byteAt_in zs) (by intro m hm; simp at hm; omega) i)) (by rw [bytesOf_length]; omega) (fun j n hj => by rw [Nat.zero_add]; exact (bytesOf_get hj).2)
    rw [bytesOf_length] at this
    exact this
  have hsz : w.heap.size + 2 < w2.heap.size := by have := hg12.size; simp at this; omega
  have HG := Lib.hid hg12
  generalize wr a b c d 4 (byteAt zs) x y [n0 % 256, n1 % 256, n2 % 256, n3 % 256] = F at *
  clear hgr hpx2 HI HP HIC HPC hg12 HGB HS HSC HF
  go_wp2_with fail
  apply wp_region_lex_lit 13 (by kernel_rfl) (by kernel_rfl)
  iterate 12
    apply lex_pin
    · intro wq hgq hdq Kq hKq
      obtain ⟨q0, q1, q2, q3, q4, q5⟩ := (HI2.out.grows ((Grows.rfl' _).drew'.step hgq)).cells
      go_wp2
      exact hKq _ (Grows.rfl' _)
    · kernel_rfl
  apply lex_any (fun v wx => ∃ v', v = .agg #[.int .i64 a, .int .i64 b, .int .i64 c, .int .i64 d, .int .i64 (sd a c 4), v'] ∧ OwnI w2 wx v' (bytesOf (total a b c d 4) F)) ((fun v x y hg ⟨v', h1, h2⟩ => ⟨v', h1, h2.later hg⟩))
  · intro wq hgq hdq Kq hKq
    go_wp2_with fail
    refine (picture_any _ _ _ _ _ _ _ _ (HRD.out.grows ((Grows.rfl' _).drew'.step hgq))).mono ?_
    rintro e wq' ⟨v', rfl, ho⟩
    go_wp2_with fail
    exact hKq _ _ ho.2 ⟨v', rfl, ho.base ((Grows.rfl' _).drew'.step hgq)⟩
  intro v19
  simp only [Act.put, List.setIfInBounds_toArray, List.set_cons_succ, List.set_cons_zero]
  refine lex_end ?_
  intro w3 hg3 hd3
  obtain ⟨v', rfl, ho⟩ := hd3 12 _ rfl
  clear hd3
  obtain ⟨A2, c2, rfl⟩ := ho.form
  have HX := Lib.hid (OwnX.start ho ((((Grows.rfl' w).alloc' _).alloc' _).alloc' _ |>.step HG.out))
  have hg4 := HG.out.drew'.step hg3
  obtain ⟨hcq, hfq⟩ := hg4.cells
  clear hg3 ho hg4 HI2 HRD HG
  go_wp2_with fail
  refine bodyPost_ret (v := .agg #[.int .i64 a, .int .i64 b, .int .i64 c, .int .i64 d, .int .i64 (sd a c 4), .slice A2 (bytesOf (total a b c d 4) F).length c2]) (by simp [results, Try.results23, go_sem, hcq]) rfl ⟨_, rfl, ?_⟩
  refine OwnX.own (B := w2.heap.size) ?_ (by omega)
  iterate 6 refine OwnX.set ?_ (by omega) hsz _
  exact HX.out
end Go.Proofs.Ytbedollfokdldaa

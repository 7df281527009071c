/-
  Contracts of image.Alpha's SetAlpha at an image in memory, and of the thin package's AlphaWrite. Conditions stand in each theorem.
-/
import Derived.Test.YtheijicdhfpidaaFamAt
import Derived.Test.YtheijicdhfpidaaPutF
import Derived.Test.YtheijicdhfpidaaSamePic
namespace Go.Proofs.Ytheijicdhfpidaa
open Go.RowKit
set_option linter.unusedVariables false

set_option maxHeartbeats 1000000 in
theorem set_in (ib pb o len N i : Nat) (f : Nat → Int) (st a b c d x y n : Int) (w : World) (hI : ImgAt w ib (.slice (some ⟨pb, o, none⟩) len len) st a b c d) (hP : Px w pb N f) (hin : Inn a b c d x y) (hx : c - a ≤ 1000) (hy : d - b ≤ 1000) (h5 : 0 ≤ st) (h6 : st ≤ 4000)
    (hi : (y - b) * st + (x - a) * 1 = (i : Int)) (hl : i + 1 ≤ len) (hN : o + len ≤ N) (hm : N ≤ 17592186044416) :
    Calls Try.prog 29 #[.pointer (some ⟨ib, 0, none⟩), .int .i64 x, .int .i64 y, .agg #[.int .u8 n]] w fun e w' => e = .returned (.tuple #[]) ∧ Px w' pb N (putF f (o + i) [n]) ∧ w.grownBy w' (some pb) := by
  have HI := Lib.hid hI
  have HP := Lib.hid hP
  have HIN := Lib.hid hin
  have HE := Lib.hid hi
  have hcell := hP.cell (i := o + i) (by omega)
  have hfz := hP.frozen (o + i)
  obtain ⟨q0, q1, q2, q3, q4, q5⟩ := hI.cells
  obtain ⟨i1, i2, i3, i4⟩ := hin
  generalize f (o + i) = u at *
  clear hI hi hP
  go_enter Try.func29, Try.ntmps29
  have hne : ib ≠ w.heap.size := by have := cell_lt q0; simp at this; omega
  have hlt : ib < w.heap.size := cell_lt q0
  have hlt2 : pb < w.heap.size := cell_lt hcell
  go_wp2_with fail
  refine (in_yes _ _ _ _ _ _ _ HIN.out).mono ?_
  rintro e w1 ⟨rfl, hg1⟩
  have HG1 : Hid (Grows w w1) := ((Grows.rfl' w).alloc' _).step hg1
  have HI1 := Lib.hid (HI.out.grows HG1.out)
  have hbx : w1.cell? ⟨w.heap.size, 0, none⟩ = some (.int .u8 n) := hg1.cell_some (by simp)
  clear hg1
  go_wp2_with fail
  refine (pixOffset_in ib i _ st a b c d x y _ HI1.out (by omega) (by omega) (by omega) (by omega) h5 h6 HE.out).mono ?_
  rintro e w2 ⟨rfl, hg2⟩
  have HG2 := Lib.hid (HG1.out.step hg2)
  have hbx2 := hg2.cell_some hbx
  have hlen : decide ((i : Int) < len) = true := decide_eq_true (by omega)
  clear hg2 hbx q0 q1 q2 q3 q4 q5
  go_wp2_with fail
  apply wp_region_lex_lit 8 (by kernel_rfl) (by kernel_rfl)
  iterate 8
    apply lex_pin
    · intro wq hgq hdq Kq hKq
      obtain ⟨q0, q1, q2, q3, q4, q5⟩ := (HI.out.grows (HG2.out.drew'.step hgq)).cells
      have hbx3 := hgq.cell_some hbx2
      go_wp2
      exact hKq _ (Grows.rfl' _)
    · kernel_rfl
  refine lex_end ?_
  intro w3 hg3 _
  have hg03 := HG2.out.drew'.step hg3
  have hcell3 := hg03.cell_some hcell
  have hfz3 : w3.frozen? ⟨pb, o + i, none⟩ = false := (hg03.cells.2 pb (o + i) hlt2).trans hfz
  have HG3 := Lib.hid hg03
  clear hg3 hg03 hcell hfz
  go_wp2_with fail
  go_end0
  exact ⟨rfl, ((HP.out.grows HG3.out).set (o + i) n).congr (fun j _ => by
    unfold putF
    by_cases hj : j = o + i
    · subst hj; rw [if_pos rfl, if_pos (by simp)]; simp
    · rw [if_neg hj, if_neg (by simp; omega)]), only_set (grown_of HG3.out) _ _⟩

set_option maxHeartbeats 1000000 in
theorem set_out (ib : Nat) (pv : Value) (st a b c d x y n : Int) (w : World) (hI : ImgAt w ib pv st a b c d) (hin : ¬ Inn a b c d x y) :
    Calls Try.prog 29 #[.pointer (some ⟨ib, 0, none⟩), .int .i64 x, .int .i64 y, .agg #[.int .u8 n]] w fun e w' => e = .returned (.tuple #[]) ∧ Grows w w' := by
  have HIN := Lib.hid hin
  obtain ⟨q0, q1, q2, q3, q4, q5⟩ := hI.cells
  have hlt : ib < w.heap.size := cell_lt q0
  clear hI hin
  go_enter Try.func29, Try.ntmps29
  go_wp2_with fail
  refine (in_no _ _ _ _ _ _ _ HIN.out).mono ?_
  rintro e w1 ⟨rfl, hg1⟩
  have HG1 : Hid (Grows w w1) := ((Grows.rfl' w).alloc' _).step hg1
  clear hg1
  go_wp2_with fail
  (try simp only [Exit.inBlock, Exit.then])
  refine bodyPost_ret (results_none rfl _ _ _) rfl ?_
  exact ⟨rfl, HG1.out⟩

set_option maxHeartbeats 2000000 in
theorem write_any (a b c d x y n : Int) (v : Value) (zs : List Int) (w : World) (hf : Fine a b c d) (h : RdI w v zs) :
    Calls Try.prog 21 #[box4 a b c d, v, .int .i64 x, .int .i64 y, .int .i64 n] w (NewPic a b c d (sd a c 1) (bytesOf (total a b c d 1) (wr a b c d 1 (byteAt zs) x y [n % 256])) w) := by
  have HR := Lib.hid h
  have HF := Lib.hid hf
  have htl := total_le (k := 1) (by omega) hf
  have hsd := sd_in (k := 1) (by omega) hf
  obtain ⟨A, cc, rfl, _⟩ := h
  obtain ⟨⟨f1, f2⟩, ⟨f3, f4⟩, ⟨f5, f6⟩, ⟨f7, f8⟩⟩ := hf
  go_enter Try.func21, Try.ntmps21
  go_wp2_with fail
  refine (mk_any _ _ _ _ _ zs _ HF.out (HR.out.grows (((Grows.rfl' w).alloc' _).alloc' _))).mono ?_
  rintro e w1 ⟨ib, pb, rfl, hib, hpb, him, hpx, hg1⟩
  have HI := Lib.hid him
  have HP := Lib.hid hpx
  have HGB := Lib.hid hg1
  clear him hpx hg1 HR
  have hset : Calls Try.prog 29 #[.pointer (some ⟨ib, 0, none⟩), .int .i64 x, .int .i64 y, .agg #[.int .u8 (n % 256)]] w1 fun e w' => e = .returned (.tuple #[]) ∧ Px w' pb (total a b c d 1) (wr a b c d 1 (byteAt zs) x y [n % 256]) ∧ w1.grownBy w' (some pb) := by
    by_cases hin : Inn a b c d x y
    · obtain ⟨i, hi, hil⟩ := inside_at (k := 1) HF.out (by omega) hin
      refine (set_in ib pb 0 _ _ i _ _ a b c d x y _ _ HI.out HP.out hin (by omega) (by omega) (by omega) (by omega) hi hil (by omega) (by omega)).mono ?_
      rintro e w' ⟨rfl, h1, h2⟩
      refine ⟨rfl, ?_, h2⟩
      rw [wr_in hin hi]
      rw [Nat.zero_add] at h1
      exact h1
    · refine (set_out ib _ _ a b c d x y _ _ HI.out hin).mono ?_
      rintro e w' ⟨rfl, h1⟩
      refine ⟨rfl, ?_, grown_of h1⟩
      rw [wr_out hin]
      exact HP.out.grows h1
  have HS := Lib.hid hset
  clear hset
  go_wp2_with fail
  refine HS.out.mono ?_
  rintro e w2 ⟨rfl, hpx2, hgr⟩
  have HI2 := Lib.hid (HI.out.kept hgr (HI.out.apart HP.out))
  have hg12 : Grows ((w.alloc (.cells #[.int .i64 a, .int .i64 b, .int .i64 c, .int .i64 d] 26)).alloc (.cells #[.int .i64 0, .int .i64 0, .int .i64 0, .int .i64 0, .int .i64 0, .slice none 0 0] 33)) w2 := HGB.out.grown' hgr (fun k hk => by
    have e : pb = k := by simpa using hk
    omega)
  have HRD : Hid (RdB w2 (.slice (some ⟨pb, 0, none⟩) (total a b c d 1) (total a b c d 1)) (bytesOf (total a b c d 1) (wr a b c d 1 (byteAt zs) x y [n % 256]))) := by
    have := hpx2.rd (o := 0) (bytesOf (total a b c d 1) (wr a b c d 1 (byteAt zs) x y [n % 256])) (total a b c d 1) (by rw [bytesOf_length]; omega) (by omega) (by rw [bytesOf_length]; omega)
      (bytesOf_in (fun i _ => wr_in255 (byteAt_in zs) (by intro m hm; simp at hm; omega) i)) (by rw [bytesOf_length]; omega) (fun j n hj => by rw [Nat.zero_add]; exact (bytesOf_get hj).2)
    rw [bytesOf_length] at this
    exact this
  have hsz : w.heap.size + 1 < w2.heap.size := by have := hg12.size; simp at this; omega
  have HG := Lib.hid hg12
  generalize wr a b c d 1 (byteAt zs) x y [n % 256] = F at *
  clear hgr hpx2 HI HP hg12 HGB HS HF
  go_wp2_with fail
  apply wp_region_lex_lit 13 (by kernel_rfl) (by kernel_rfl)
  iterate 12
    apply lex_pin
    · intro wq hgq hdq Kq hKq
      obtain ⟨q0, q1, q2, q3, q4, q5⟩ := (HI2.out.grows ((Grows.rfl' _).drew'.step hgq)).cells
      go_wp2
      exact hKq _ (Grows.rfl' _)
    · kernel_rfl
  apply lex_any (fun v wx => ∃ v', v = .agg #[.int .i64 a, .int .i64 b, .int .i64 c, .int .i64 d, .int .i64 (sd a c 1), v'] ∧ OwnI w2 wx v' (bytesOf (total a b c d 1) F)) ((fun v x y hg ⟨v', h1, h2⟩ => ⟨v', h1, h2.later hg⟩))
  · intro wq hgq hdq Kq hKq
    go_wp2_with fail
    refine (picture_any _ _ _ _ _ _ _ _ (HRD.out.grows ((Grows.rfl' _).drew'.step hgq))).mono ?_
    rintro e wq' ⟨v', rfl, ho⟩
    go_wp2_with fail
    exact hKq _ _ ho.2 ⟨v', rfl, ho.base ((Grows.rfl' _).drew'.step hgq)⟩
  intro v19
  simp only [Act.put, List.setIfInBounds_toArray, List.set_cons_succ, List.set_cons_zero]
  refine lex_end ?_
  intro w3 hg3 hd3
  obtain ⟨v', rfl, ho⟩ := hd3 12 _ rfl
  clear hd3
  obtain ⟨A2, c2, rfl⟩ := ho.form
  have HX := Lib.hid (OwnX.start ho (((Grows.rfl' w).alloc' _).alloc' _ |>.step HG.out))
  have hg4 := HG.out.drew'.step hg3
  obtain ⟨hcq, hfq⟩ := hg4.cells
  clear hg3 ho hg4 HI2 HRD HG
  go_wp2_with fail
  refine bodyPost_ret (v := .agg #[.int .i64 a, .int .i64 b, .int .i64 c, .int .i64 d, .int .i64 (sd a c 1), .slice A2 (bytesOf (total a b c d 1) F).length c2]) (by simp [results, Try.results21, go_sem, hcq]) rfl ⟨_, rfl, ?_⟩
  refine OwnX.own (B := w2.heap.size) ?_ (by omega)
  iterate 6 refine OwnX.set ?_ (by omega) hsz _
  exact HX.out
end Go.Proofs.Ytheijicdhfpidaa

/-
  Contracts of the reference's byteAt, YCbCrYOffset, YCbCrRead, YCbCrColor and of the statements' sample. Conditions stand in each theorem.
-/
import Derived.Test.YtcohenlemddpfaaYRead
namespace Go.Proofs.Ytcohenlemddpfaa
open Go.RowKit
set_option linter.unusedVariables false

set_option maxHeartbeats 1000000 in
theorem byteAtS_any (v : Value) (zs : List Int) (i : Nat) (w : World) (hi : i ≤ 9000000) (h : RdI w v zs) : Calls Try.prog 33 #[v, .int .i64 (i : Nat)] w fun e w' => e = .returned (.int .i64 (byteAt zs i)) ∧ Grows w w' := by
  obtain ⟨A, c, rfl, _, _, hl, _, hr⟩ := h
  by_cases hlt : i < zs.length
  · have he : zs[i]? = some zs[i] := List.getElem?_eq_getElem hlt
    obtain ⟨b, o, rfl, hcell⟩ := hr i _ he
    have HV : Hid (byteAt zs i = zs[i] % 256) := by unfold Hid byteAt; simp [List.getD, he]
    have hb : decide ((i : Int) < zs.length) = true := decide_eq_true (by omega)
    clear hr he
    generalize zs[i] = z at *
    generalize zs.length = N at *
    go_enter Try.func33, Try.ntmps33
    go_wp2_with (go_at_call 44; refine (slow_any _ _).mono ?_; rintro e w' ⟨rfl, rfl⟩)
    go_ret
    exact ⟨ret_int HV.out.symm, Grows.rfl' _⟩
  · have HV : Hid (byteAt zs i = 0) := by unfold Hid byteAt; rw [List.getD_eq_getElem?_getD, List.getElem?_eq_none (by omega)]; rfl
    have hb : decide ((i : Int) < zs.length) = false := decide_eq_false (by omega)
    clear hr
    generalize zs.length = N at *
    go_enter Try.func33, Try.ntmps33
    go_wp2_with fail
    go_ret
    exact ⟨ret_int HV.out.symm, Grows.rfl' _⟩

set_option maxHeartbeats 1000000 in
theorem sample_any (v : Value) (zs : List Int) (i : Nat) (w : World) (hi : i ≤ 9000000) (h : RdI w v zs) : Calls Try.prog 14 #[v, .int .i64 (i : Nat)] w fun e w' => e = .returned (.int .i64 (byteAt zs i)) ∧ Grows w w' := by
  obtain ⟨A, c, rfl, _, _, hl, _, hr⟩ := h
  have hb0 : decide (0 ≤ (i : Int)) = true := decide_eq_true (by omega)
  by_cases hlt : i < zs.length
  · have he : zs[i]? = some zs[i] := List.getElem?_eq_getElem hlt
    obtain ⟨b, o, rfl, hcell⟩ := hr i _ he
    have HV : Hid (byteAt zs i = zs[i] % 256) := by unfold Hid byteAt; simp [List.getD, he]
    have hb : decide ((i : Int) < zs.length) = true := decide_eq_true (by omega)
    clear hr he
    generalize zs[i] = z at *
    generalize zs.length = N at *
    go_enter Try.func14, Try.ntmps14
    go_wp2_with (go_at_call 26; refine (low_any _ _).mono ?_; rintro e w' ⟨rfl, rfl⟩)
    go_ret
    exact ⟨ret_int HV.out.symm, Grows.rfl' _⟩
  · have HV : Hid (byteAt zs i = 0) := by unfold Hid byteAt; rw [List.getD_eq_getElem?_getD, List.getElem?_eq_none (by omega)]; rfl
    have hb : decide ((i : Int) < zs.length) = false := decide_eq_false (by omega)
    clear hr
    generalize zs.length = N at *
    go_enter Try.func14, Try.ntmps14
    go_wp2_with fail
    go_ret
    exact ⟨ret_int HV.out.symm, Grows.rfl' _⟩

set_option maxHeartbeats 1000000 in
theorem specYOff_any (a b c d r x y : Int) (w : World) (h : PlainY a b c d r) (hin : Inn a b c d x y) :
    Calls Try.prog 31 #[box4 a b c d, .int .i64 r, .int .i64 x, .int .i64 y] w fun e w' => e = .returned (.int .i64 (yAt a b c x y : Nat)) ∧ Grows w w' := by
  have hE := (h.yAt_eq hin).1
  obtain ⟨⟨⟨f1, f2⟩, ⟨f3, f4⟩, ⟨f5, f6⟩, ⟨f7, f8⟩⟩, ⟨g1, g2⟩, ⟨g3, g4⟩, _⟩ := h
  obtain ⟨i1, i2, i3, i4⟩ := hin
  have m1 : 0 ≤ (y - b) * (c - a) := Int.mul_nonneg (by omega) (by omega)
  have m2 : (y - b) * (c - a) ≤ 1000 * 1000 := Int.mul_le_mul (by omega) (by omega) (by omega) (by omega)
  generalize yAt a b c x y = i at *
  go_enter Try.func31, Try.ntmps31
  go_wp2
  go_ret
  exact ⟨by first | rfl | exact ret_int (by omega), (Grows.rfl' _).alloc' _⟩

set_option maxHeartbeats 4000000 in
theorem specReadY_any (a b c d r x y : Int) (vy vb vr : Value) (ys bs rs : List Int) (w : World) (h : PlainY a b c d r) (h1 : RdI w vy ys) (h2 : RdI w vb bs) (h3 : RdI w vr rs) :
    Calls Try.prog 16 #[box4 a b c d, .int .i64 r, vy, vb, vr, .int .i64 x, .int .i64 y] w fun e w' => e = .returned (.agg #[.int .i64 (colY a b c d ys x y), .int .i64 (colC a b c d r bs x y), .int .i64 (colC a b c d r rs x y), .int .i64 0]) ∧ Grows w w' := by
  have H1 := Lib.hid h1
  have H2 := Lib.hid h2
  have H3 := Lib.hid h3
  have HH := Lib.hid h
  have hn0 := h.nY_eq.2
  have hn1 := h.nC_eq.2
  obtain ⟨A1, c1, rfl, _⟩ := h1
  obtain ⟨A2, c2, rfl, _⟩ := h2
  obtain ⟨A3, c3, rfl, _⟩ := h3
  by_cases hin : Inn a b c d x y
  · have HIN := Lib.hid hin
    have HU : Hid (colY a b c d ys x y = byteAt ys (yAt a b c x y) ∧ colC a b c d r bs x y = byteAt bs (cAt a b c r x y) ∧ colC a b c d r rs x y = byteAt rs (cAt a b c r x y)) := ⟨colY_in hin, colC_in hin, colC_in hin⟩
    have hil := (h.yAt_eq hin).2
    have hkl := (h.cAt_eq hin).2
    have HYO : Hid (∀ W, Calls Try.prog 31 #[box4 a b c d, .int .i64 r, .int .i64 x, .int .i64 y] W fun e w' => e = .returned (.int .i64 (yAt a b c x y : Nat)) ∧ Grows W w') := fun W => specYOff_any _ _ _ _ _ _ _ W HH.out HIN.out
    have HCO : Hid (∀ W, Calls Try.prog 32 #[box4 a b c d, .int .i64 r, .int .i64 x, .int .i64 y] W fun e w' => e = .returned (.int .i64 (cAt a b c r x y : Nat)) ∧ Grows W w') := fun W => specCOff_any _ _ _ _ _ _ _ W HH.out HIN.out
    clear h hin
    generalize yAt a b c x y = i at *
    generalize cAt a b c r x y = k at *
    go_enter Try.func16, Try.ntmps16
    go_wp2_with fail
    refine (specHas_yes _ _ _ _ _ _ _ HIN.out).mono ?_
    rintro e w1 ⟨rfl, hg1⟩
    have q0 : w1.cell? ⟨w.heap.size, 0, none⟩ = some (.int .i64 a) := hg1.cell_some (by simp)
    have q1 : w1.cell? ⟨w.heap.size, 1, none⟩ = some (.int .i64 b) := hg1.cell_some (by simp)
    have q2 : w1.cell? ⟨w.heap.size, 2, none⟩ = some (.int .i64 c) := hg1.cell_some (by simp)
    have q3 : w1.cell? ⟨w.heap.size, 3, none⟩ = some (.int .i64 d) := hg1.cell_some (by simp)
    have HBX : Hid (BoxAt w1 w.heap.size a b c d) := ⟨q0, q1, q2, q3⟩
    have HGB := Lib.hid hg1
    have HG : Hid (Grows w w1) := (((Grows.rfl' w).alloc' _).alloc' _).step hg1
    clear hg1 q0 q1 q2 q3
    go_wp2_with fail
    apply wp_region_lex_lit 12 (by kernel_rfl) (by kernel_rfl)
    iterate 12
      apply lex_pin
      · intro wq hgq hdq Kq hKq
        obtain ⟨q0, q1, q2, q3⟩ := HBX.out.grows ((Grows.rfl' _).drew'.step hgq)
        go_wp2_with ((first | (go_at_call 31; refine (HYO.out _).mono ?_) | (go_at_call 32; refine (HCO.out _).mono ?_)); rintro e wq' ⟨rfl, hgq'⟩)
        first | exact hKq _ (Grows.rfl' _) | exact hKq _ hgq'
      · kernel_rfl
    refine lex_end ?_
    intro w2 hg2 _
    replace HGB := Lib.hid (HGB.out.drew'.step hg2)
    replace HG := Lib.hid (HG.out.drew'.step hg2)
    clear hg2 HBX
    go_wp2_with fail
    refine (byteAtS_any _ ys i _ (by omega) (H1.out.grows HG.out)).mono ?_
    rintro e w3 ⟨rfl, hg3⟩
    replace HGB := Lib.hid (HGB.out.step hg3)
    replace HG := Lib.hid (HG.out.step hg3)
    clear hg3
    go_wp2_with fail
    refine (byteAtS_any _ bs k _ (by omega) (H2.out.grows HG.out)).mono ?_
    rintro e w4 ⟨rfl, hg4⟩
    replace HGB := Lib.hid (HGB.out.step hg4)
    replace HG := Lib.hid (HG.out.step hg4)
    clear hg4
    go_wp2_with fail
    refine (byteAtS_any _ rs k _ (by omega) (H3.out.grows HG.out)).mono ?_
    rintro e w5 ⟨rfl, hg5⟩
    replace HGB := Lib.hid (HGB.out.step hg5)
    replace HG := Lib.hid (HG.out.step hg5)
    obtain ⟨hcq, hfq⟩ := HGB.out.cells
    clear hg5 HGB H1 H2 H3
    generalize byteAt ys i = u0 at *
    generalize byteAt bs k = u1 at *
    generalize byteAt rs k = u2 at *
    go_wp2_with fail
    refine bodyPost_ret (v := .agg #[.int .i64 u0, .int .i64 u1, .int .i64 u2, .int .i64 0]) (by simp [results, Try.results16, go_sem, hcq]) rfl ⟨by rw [HU.out.1, HU.out.2.1, HU.out.2.2], ?_⟩
    iterate 4 refine Grows.set' ?_ (by simp) _
    exact HG.out
  · have HIN := Lib.hid hin
    have HU : Hid (colY a b c d ys x y = 0 ∧ colC a b c d r bs x y = 0 ∧ colC a b c d r rs x y = 0) := ⟨colY_out hin, colC_out hin, colC_out hin⟩
    clear h hin
    go_enter Try.func16, Try.ntmps16
    go_wp2_with fail
    refine (specHas_no _ _ _ _ _ _ _ HIN.out).mono ?_
    rintro e w1 ⟨rfl, hg1⟩
    obtain ⟨hcq, hfq⟩ := hg1.cells
    have HG : Hid (Grows w w1) := (((Grows.rfl' w).alloc' _).alloc' _).step hg1
    clear hg1
    go_wp2_with fail
    refine bodyPost_ret (v := .agg #[.int .i64 0, .int .i64 0, .int .i64 0, .int .i64 0]) (by simp [results, Try.results16, go_sem, hcq]) rfl ⟨by rw [HU.out.1, HU.out.2.1, HU.out.2.2], ?_⟩
    iterate 4 refine Grows.set' ?_ (by simp) _
    exact HG.out

set_option maxHeartbeats 1000000 in
theorem specColorY_any (a b c d r x y : Int) (vy vb vr : Value) (ys bs rs : List Int) (w : World) (h : PlainY a b c d r) (h1 : RdI w vy ys) (h2 : RdI w vb bs) (h3 : RdI w vr rs) :
    Calls Try.prog 18 #[box4 a b c d, .int .i64 r, vy, vb, vr, .int .i64 x, .int .i64 y] w fun e w' => e = .returned (.agg #[.int .i64 (colY a b c d ys x y), .int .i64 (colC a b c d r bs x y), .int .i64 (colC a b c d r rs x y), .int .i64 0]) ∧ Grows w w' := by
  have H1 := Lib.hid h1
  have H2 := Lib.hid h2
  have H3 := Lib.hid h3
  have HH := Lib.hid h
  obtain ⟨A1, c1, rfl, _⟩ := h1
  obtain ⟨A2, c2, rfl, _⟩ := h2
  obtain ⟨A3, c3, rfl, _⟩ := h3
  clear h
  have hgw : Hid (∀ (o1 o2 : Obj), Grows w ((w.alloc o1).alloc o2)) := fun o1 o2 => ((Grows.rfl' w).alloc' _).alloc' _
  go_enter Try.func18, Try.ntmps18
  go_wp2_with fail
  refine (specReadY_any a b c d r x y _ _ _ ys bs rs _ HH.out (H1.out.grows (hgw.out _ _)) (H2.out.grows (hgw.out _ _)) (H3.out.grows (hgw.out _ _))).mono ?_
  rintro e w1 ⟨rfl, hg1⟩
  obtain ⟨hcq, hfq⟩ := hg1.cells
  have HG : Hid (Grows w w1) := (hgw.out _ _).step hg1
  clear hg1 H1 H2 H3
  go_wp2_with fail
  refine bodyPost_ret (v := .agg #[.int .i64 (colY a b c d ys x y), .int .i64 (colC a b c d r bs x y), .int .i64 (colC a b c d r rs x y), .int .i64 0]) (by simp [results, Try.results18, go_sem, hcq]) rfl ⟨rfl, ?_⟩
  iterate 4 refine Grows.set' ?_ (by simp) _
  exact HG.out

/-- Planes with these bounds. -/
def HasRectP (a b c d : Int) (v : Value) (w : World) : Prop := ∃ ys cs r p1 p2 p3, v = .agg #[.int .i64 a, .int .i64 b, .int .i64 c, .int .i64 d, .int .i64 ys, .int .i64 cs, .int .i64 r, p1, p2, p3]
theorem HasRectP.keep {a b c d : Int} (v : Value) (w w' : World) (hg : Grows w w') (h : HasRectP a b c d v w) : HasRectP a b c d v w' := h
theorem NewPl.hasRect {a b c d ys cs r : Int} {L1 L2 L3 : List Int} {W w : World} {e : Ending} (h : NewPl a b c d ys cs r L1 L2 L3 W e w) : ∃ v, e = .returned v ∧ Grows W w ∧ HasRectP a b c d v w := by
  obtain ⟨v, rfl, p1, p2, p3, rfl, ho, _⟩ := h
  exact ⟨_, rfl, ho.2, _, _, _, _, _, _, rfl⟩
theorem field_rectP (a b c d ys cs r : Int) (p1 p2 p3 : Value) (w : World) : (Instr.field 35 (.agg #[.int .i64 a, .int .i64 b, .int .i64 c, .int .i64 d, .int .i64 ys, .int .i64 cs, .int .i64 r, p1, p2, p3]) 0).run Try.prog w = .ok (box4 a b c d) w := by kernel_rfl
end Go.Proofs.Ytcohenlemddpfaa

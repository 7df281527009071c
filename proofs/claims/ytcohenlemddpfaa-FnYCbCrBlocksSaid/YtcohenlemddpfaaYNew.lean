/-
  Contracts of the library's NewYCbCr and of the thin package's newYCbCr; images with luma and chroma samples in memory. Conditions (the rectangle and the ratio are plain) stand in each theorem.
-/
import Derived.Test.YtcohenlemddpfaaYSize
namespace Go.Proofs.Ytcohenlemddpfaa
open Go.RowKit
set_option linter.unusedVariables false

/-- Block ib is an image: three slices of samples, two strides, the ratio, the bounds. -/
def ImgY (w : World) (ib : Nat) (vy vb vr : Value) (ys cs r a b c d : Int) : Prop := w.heap[ib]? = some (.cells #[vy, vb, vr, .int .i64 ys, .int .i64 cs, .int .i64 r, .int .i64 a, .int .i64 b, .int .i64 c, .int .i64 d] 66 (0, 0))
section
variable {w w' : World} {ib pb N : Nat} {vy vb vr : Value} {ys cs r a b c d : Int} {f : Nat → Int}
theorem ImgY.lt (h : ImgY w ib vy vb vr ys cs r a b c d) : ib < w.heap.size := (Array.getElem?_eq_some_iff.1 h).1
theorem ImgY.grows (h : ImgY w ib vy vb vr ys cs r a b c d) (hg : Grows w w') : ImgY w' ib vy vb vr ys cs r a b c d := (hg.block ib h.lt).trans h
theorem ImgY.cells (h : ImgY w ib vy vb vr ys cs r a b c d) :
    w.cell? ⟨ib, 0, none⟩ = some vy ∧ w.cell? ⟨ib, 1, none⟩ = some vb ∧ w.cell? ⟨ib, 2, none⟩ = some vr ∧ w.cell? ⟨ib, 3, none⟩ = some (.int .i64 ys) ∧ w.cell? ⟨ib, 4, none⟩ = some (.int .i64 cs) ∧ w.cell? ⟨ib, 5, none⟩ = some (.int .i64 r) ∧ w.cell? ⟨ib, 6, none⟩ = some (.int .i64 a) ∧ w.cell? ⟨ib, 7, none⟩ = some (.int .i64 b) ∧ w.cell? ⟨ib, 8, none⟩ = some (.int .i64 c) ∧ w.cell? ⟨ib, 9, none⟩ = some (.int .i64 d) := by
  unfold ImgY at h
  simp [World.cell?, h]
theorem ImgY.apart (h : ImgY w ib vy vb vr ys cs r a b c d) (hp : Px w pb N f) : ib ≠ pb := hp.apart h.cells.2.2.2.1
theorem ImgY.kept (h : ImgY w ib vy vb vr ys cs r a b c d) (hg : w.grownBy w' (some pb)) (hne : ib ≠ pb) : ImgY w' ib vy vb vr ys cs r a b c d :=
  (hg.block ib h.lt (fun e => hne (by simpa using e))).trans h
end

/-- Four ints in memory. -/
def BoxAt (w : World) (bx : Nat) (a b c d : Int) : Prop := w.cell? ⟨bx, 0, none⟩ = some (.int .i64 a) ∧ w.cell? ⟨bx, 1, none⟩ = some (.int .i64 b) ∧ w.cell? ⟨bx, 2, none⟩ = some (.int .i64 c) ∧ w.cell? ⟨bx, 3, none⟩ = some (.int .i64 d)
theorem BoxAt.grows {w w' : World} {bx : Nat} {a b c d : Int} (h : BoxAt w bx a b c d) (hg : Grows w w') : BoxAt w' bx a b c d := ⟨hg.cell_some h.1, hg.cell_some h.2.1, hg.cell_some h.2.2.1, hg.cell_some h.2.2.2⟩

/-- The result points to a new image whose samples lie in one row of its own. -/
def NewY (a b c d r : Int) (f : Nat → Int) (W : World) (e : Ending) (w' : World) : Prop :=
  ∃ ib pb, e = .returned (.pointer (some ⟨ib, 0, none⟩)) ∧ W.heap.size ≤ ib ∧ W.heap.size ≤ pb ∧
    ImgY w' ib (.slice (some ⟨pb, 0, none⟩) (nY a b c d) (nY a b c d)) (.slice (some ⟨pb, nY a b c d, none⟩) (nC a b c d r) (nC a b c d r)) (.slice (some ⟨pb, nY a b c d + nC a b c d r, none⟩) (nC a b c d r) (nC a b c d r)) (c - a) (acr a c (hsp r)) r a b c d ∧
    Px w' pb (nY a b c d + nC a b c d r + nC a b c d r) f ∧ Grows W w'

set_option maxHeartbeats 2000000 in
theorem newY_any (a b c d r : Int) (w : World) (h : PlainY a b c d r) : Calls Try.prog 27 #[box4 a b c d, .int .i64 r] w (NewY a b c d r (fun _ => 0) w) := by
  have HS := Lib.hid (fun W => ysize_any a b c d r W h)
  have hcw := h.cw
  have hch := h.ch
  have h0 := h.nY_eq
  have h1 := h.nC_eq
  have hW : 0 ≤ c - a ∧ c - a ≤ 1000 := by obtain ⟨⟨_, _, _, ⟨h1, h2⟩⟩, _, ⟨h5, h6⟩, _⟩ := h; omega
  have hH : 0 ≤ d - b ∧ d - b ≤ 1000 := by obtain ⟨⟨_, _, _, ⟨h1, h2⟩⟩, _, ⟨h5, h6⟩, _⟩ := h; omega
  have hpos : 1 ≤ nY a b c d ∧ 1 ≤ nC a b c d r := by
    have e1 : 1 * 1 ≤ (c - a) * (d - b) := Int.mul_le_mul (by obtain ⟨_, _, ⟨h5, h6⟩, _⟩ := h; omega) (by obtain ⟨_, _, ⟨h5, h6⟩, _⟩ := h; omega) (by omega) (by omega)
    have e2 : 1 * 1 ≤ acr a c (hsp r) * acr b d (vsp r) := Int.mul_le_mul (by omega) (by omega) (by omega) (by omega)
    omega
  clear h
  unfold NewY
  obtain ⟨h0e, h0l⟩ := h0
  obtain ⟨h1e, h1l⟩ := h1
  obtain ⟨W, hWe⟩ : ∃ W, W = c - a := ⟨_, rfl⟩
  obtain ⟨H, hHe⟩ : ∃ H, H = d - b := ⟨_, rfl⟩
  rw [← hWe] at HS hW h0e ⊢
  rw [← hHe] at HS hH h0e
  have HWE := Lib.hid hWe
  clear hWe hHe
  generalize acr a c (hsp r) = CW at *
  generalize acr b d (vsp r) = CH at *
  generalize nY a b c d = n0 at *
  generalize nC a b c d r = n1 at *
  have e0 : W * H = (n0 : Int) := h0e.symm
  have e1 : CW * CH = (n1 : Int) := h1e.symm
  have e2 : 2 * CW * CH = 2 * (n1 : Int) := by rw [Int.mul_assoc, e1]
  clear h0e h1e
  have t0 : decide ((n0 : Int) + 2 * n1 < 0) = false := decide_eq_false (by omega)
  obtain ⟨N, hN⟩ : ∃ N, N = n0 + n1 + n1 := ⟨_, rfl⟩
  rw [← hN]
  have HN := Lib.hid hN
  have l1 : (n0 : Int) ≤ (N : Int) := by omega
  have l2 : (n0 : Int) + n1 ≤ (N : Int) := by omega
  have l3 : (n0 : Int) + 2 * n1 ≤ (N : Int) := by omega
  have l4 : ¬ N = n0 := by omega
  have l5 : ¬ N = n0 + n1 := by omega
  have hNl : N ≤ 3000000 := by omega
  have hmk : ∀ Z : World, (Instr.makeSlice 64 (.int .i64 ((n0 : Int) + 2 * n1)) (.int .i64 ((n0 : Int) + 2 * n1))).run Try.prog Z = .ok (.slice (some ⟨Z.heap.size, 0, none⟩) N N) (Z.alloc (.cells (madeCells #[.int .u8 0] N) 5)) := by
    intro Z
    have e : (n0 : Int) + 2 * n1 = (N : Int) := by omega
    rw [e]
    exact run_make_row' 64 5 (.int .u8 0) 1 Try.underlying64 info_byte rfl .i64 .i64 _ (by omega) (by omega) Z
  clear hN
  go_enter Try.func27, Try.ntmps27
  go_wp2_with fail
  refine (HS.out _).mono ?_
  rintro e w1 ⟨rfl, hg1⟩
  have q0 : w1.cell? ⟨w.heap.size, 0, none⟩ = some (.int .i64 a) := hg1.cell_some (by simp)
  have q1 : w1.cell? ⟨w.heap.size, 1, none⟩ = some (.int .i64 b) := hg1.cell_some (by simp)
  have q2 : w1.cell? ⟨w.heap.size, 2, none⟩ = some (.int .i64 c) := hg1.cell_some (by simp)
  have q3 : w1.cell? ⟨w.heap.size, 3, none⟩ = some (.int .i64 d) := hg1.cell_some (by simp)
  have HG : Hid (Grows w w1) := ((Grows.rfl' w).alloc' _).step hg1
  clear hg1 HS
  go_wp2_with (first | (go_at_call 40; refine (mul3_any _ _ _ _ (by omega) (by omega) (by omega) (by omega) (by omega) (by omega)).mono ?_; rintro e w' ⟨rfl, rfl⟩) | (go_at_call 39; refine (add2_any _ _ _ (by omega) (by omega) (by omega) (by omega)).mono ?_; rintro e w' ⟨rfl, rfl⟩))
  have HP : Hid (Px (w1.alloc (.cells (madeCells #[.int .u8 0] N) 5)) w1.heap.size N (fun _ => 0)) := World.rowIs_made _ _ _ _
  have hgw : Grows w1 (w1.alloc (.cells (madeCells #[.int .u8 0] N) 5)) := (Grows.rfl' _).alloc' _
  have HBX : Hid (BoxAt (w1.alloc (.cells (madeCells #[.int .u8 0] N) 5)) w.heap.size a b c d) := BoxAt.grows ⟨q0, q1, q2, q3⟩ hgw
  have hpb : w.heap.size ≤ w1.heap.size := HG.out.size
  replace HG := Lib.hid (HG.out.step hgw)
  clear hgw q0 q1 q2 q3 hmk
  generalize w1.alloc (.cells (madeCells #[.int .u8 0] N) 5) = w2 at *
  generalize w1.heap.size = pb at *
  apply wp_region_lex_lit 19 (by kernel_rfl) (by kernel_rfl)
  iterate 19
    apply lex_pin
    · intro wq hgq hdq Kq hKq
      obtain ⟨q0, q1, q2, q3⟩ := HBX.out.grows ((Grows.rfl' _).drew'.step hgq)
      go_wp2
      exact hKq _ (Grows.rfl' _)
    · kernel_rfl
  refine lex_end ?_
  intro w3 hg3 _
  have HG3 := Lib.hid (HG.out.drew'.step hg3)
  have HP3 := Lib.hid (HP.out.grows ((Grows.rfl' _).drew'.step hg3))
  clear hg3
  go_wp2_with fail
  go_ret
  refine ⟨w3.heap.size, pb, rfl, HG3.out.size, hpb, ?_, World.rowIs.alloc HP3.out _, HG3.out.alloc' _⟩
  unfold ImgY
  rw [heap_alloc_new, show n0 + 2 * n1 - (n0 + n1) = n1 by omega]

/-- The samples of three planes in one row. -/
def plF (n0 n1 : Nat) (ys bs rs : List Int) (i : Nat) : Int := if i < n0 then byteAt ys i else if i < n0 + n1 then byteAt bs (i - n0) else byteAt rs (i - n0 - n1)
theorem plF_in (n0 n1 : Nat) (ys bs rs : List Int) (i : Nat) : 0 ≤ plF n0 n1 ys bs rs i ∧ plF n0 n1 ys bs rs i ≤ 255 := by
  unfold plF
  split
  · exact byteAt_in _ _
  · split <;> exact byteAt_in _ _

theorem fillF_byte {f : Nat → Int} {o n : Nat} {zs : List Int} {i : Nat} (h1 : o ≤ i) (h2 : i < o + n) (hf : f i = 0) : fillF f o (min n zs.length) zs i = byteAt zs (i - o) := by
  unfold fillF byteAt
  by_cases h : i - o < zs.length
  · rw [if_pos (by omega)]
  · rw [if_neg (by omega), hf, List.getD_eq_getElem?_getD, List.getElem?_eq_none (by omega)]
    rfl
theorem fillF_else {f : Nat → Int} {o n : Nat} {zs : List Int} {i : Nat} (h : i < o ∨ o + n ≤ i) : fillF f o (min n zs.length) zs i = f i := by
  unfold fillF
  rw [if_neg (by omega)]

theorem plF_fills (n0 n1 : Nat) (ys bs rs : List Int) (i : Nat) (hi : i < n0 + n1 + n1) :
    fillF (fillF (fillF (fun _ => 0) 0 (min n0 ys.length) ys) n0 (min n1 bs.length) bs) (n0 + n1) (min n1 rs.length) rs i = plF n0 n1 ys bs rs i := by
  unfold plF
  by_cases hi0 : i < n0
  · rw [if_pos hi0, fillF_else (by omega), fillF_else (by omega), fillF_byte (f := fun _ => 0) (by omega) (by omega) rfl, Nat.sub_zero]
  · rw [if_neg hi0]
    by_cases hi1 : i < n0 + n1
    · rw [if_pos hi1, fillF_else (by omega), fillF_byte (i := i) (by omega) (by omega) (fillF_else (f := fun _ => 0) (by omega))]
    · rw [if_neg hi1, fillF_byte (i := i) (by omega) (by omega) ((fillF_else (i := i) (by omega)).trans (fillF_else (f := fun _ => 0) (by omega)))]
      congr 1
      omega

set_option maxHeartbeats 2000000 in
theorem mkY_any (a b c d r : Int) (vy vb vr : Value) (ys bs rs : List Int) (w : World) (h : PlainY a b c d r) (h1 : RdI w vy ys) (h2 : RdI w vb bs) (h3 : RdI w vr rs) :
    Calls Try.prog 21 #[box4 a b c d, .int .i64 r, vy, vb, vr] w (NewY a b c d r (plF (nY a b c d) (nC a b c d r) ys bs rs) w) := by
  have HS := Lib.hid (fun W => newY_any a b c d r W h)
  have hl0 := h.nY_eq.2
  have hl1 := h.nC_eq.2
  have H1 := Lib.hid h1
  have H2 := Lib.hid h2
  have H3 := Lib.hid h3
  obtain ⟨A1, c1, rfl, _⟩ := h1
  obtain ⟨A2, c2, rfl, _⟩ := h2
  obtain ⟨A3, c3, rfl, _⟩ := h3
  clear h
  unfold NewY at HS ⊢
  generalize nY a b c d = n0 at *
  generalize nC a b c d r = n1 at *
  go_enter Try.func21, Try.ntmps21
  go_wp2_with fail
  refine (rectangle_any _ _ _ _ _).mono ?_
  rintro e w1 ⟨rfl, hg1⟩
  go_wp2_with fail
  refine (HS.out _).mono ?_
  rintro e w2 ⟨ib, pb, rfl, hib, hpb, him, hpx, hg2⟩
  have hgw : Grows w w2 := (((Grows.rfl' w).alloc' _).step hg1).step hg2
  have hw1 : w.heap.size ≤ w1.heap.size := Nat.le_trans (by simp) hg1.size
  have hib' : w.heap.size ≤ ib := by omega
  have hpb' : w.heap.size ≤ pb := by omega
  have hne := him.apart hpx
  have HNE : ∀ k, some pb = some k → w.heap.size ≤ k := fun k hk => by
    have e : pb = k := by simpa using hk
    omega
  have HI := Lib.hid him
  have HP := Lib.hid hpx
  have HG := Lib.hid hgw
  have HNEH := Lib.hid HNE
  clear him hpx hgw hg1 hg2 hib hpb HNE HS
  obtain ⟨q0, q1, q2, _⟩ := HI.out.cells
  go_wp2_with fail
  refine (fill_any pb _ 0 n0 n0 _ _ ys _ HP.out (by omega) (by omega) (by omega) (H1.out.grows HG.out)).mono ?_
  rintro e w3 ⟨rfl, hpx3, hgr⟩
  replace HI := Lib.hid (HI.out.kept hgr hne)
  replace HG := Lib.hid (HG.out.grown' hgr HNEH.out)
  have HP3 := Lib.hid hpx3
  clear q0 q1 q2 hgr hpx3 HP
  obtain ⟨q0, q1, q2, _⟩ := HI.out.cells
  go_wp2_with fail
  refine (fill_any pb _ n0 n1 n1 _ _ bs _ HP3.out (by omega) (by omega) (by omega) (H2.out.grows HG.out)).mono ?_
  rintro e w4 ⟨rfl, hpx4, hgr⟩
  replace HI := Lib.hid (HI.out.kept hgr hne)
  replace HG := Lib.hid (HG.out.grown' hgr HNEH.out)
  have HP4 := Lib.hid hpx4
  clear q0 q1 q2 hgr hpx4 HP3
  obtain ⟨q0, q1, q2, _⟩ := HI.out.cells
  go_wp2_with fail
  refine (fill_any pb _ (n0 + n1) n1 n1 _ _ rs _ HP4.out (by omega) (by omega) (by omega) (H3.out.grows HG.out)).mono ?_
  rintro e w5 ⟨rfl, hpx5, hgr⟩
  replace HI := Lib.hid (HI.out.kept hgr hne)
  replace HG := Lib.hid (HG.out.grown' hgr HNEH.out)
  have HP5 := Lib.hid hpx5
  clear q0 q1 q2 hgr hpx5 HP4
  go_wp2_with fail
  go_ret
  refine ⟨ib, pb, rfl, hib', hpb', HI.out, HP5.out.congr fun i hi => ?_, HG.out⟩
  exact plF_fills n0 n1 ys bs rs i hi
end Go.Proofs.Ytcohenlemddpfaa

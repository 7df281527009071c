/-
  Contracts of the library's NewCMYK and of the thin package's newCMYK, CMYKNew and CMYKOffset; PixOffset. Conditions (the rectangle is fine) stand in each theorem.
-/
import Derived.Test.YtfnmgkbeeckjnaaSpec
namespace Go.Proofs.Ytfnmgkbeeckjnaa
open Go.RowKit
set_option linter.unusedVariables false

theorem info_byte : (Try.prog.info? 5).map (fun i => (i.zero, i.size, i.bytes)) = some (some (.int .u8 0), 1, 1) := by kernel_rfl

set_option maxHeartbeats 1000000 in
theorem mul3_any (x y z : Int) (w : World) (h1 : 0 ≤ x) (h2 : x ≤ 4) (h3 : 0 ≤ y) (h4 : y ≤ 1000) (h5 : 0 ≤ z) (h6 : z ≤ 1000) :
    Calls Try.prog 52 #[.int .i64 x, .int .i64 y, .int .i64 z] w fun e w' => e = .returned (.int .i64 (x * y * z)) ∧ w = w' := by
  have p1 : 0 ≤ x * y := Int.mul_nonneg h1 h3
  have p2 : x * y ≤ 4 * 1000 := Int.mul_le_mul (by omega) (by omega) (by omega) (by omega)
  have p3 : 0 ≤ x * y * z := Int.mul_nonneg p1 h5
  have p4 : x * y * z ≤ 4000 * 1000 := Int.mul_le_mul (by omega) (by omega) (by omega) (by omega)
  have t1 : decide (x < 0) = false := by simp; omega
  have t2 : decide (y < 0) = false := by simp; omega
  have t3 : decide (z < 0) = false := by simp; omega
  go_enter Try.func52, Try.ntmps52
  go_wp2_with fail
  refine (mul64_any x y _ (by omega) (by omega) (by omega) (by omega) (by omega) (by omega)).mono ?_
  rintro e w' ⟨rfl, rfl⟩
  go_wp2_with fail
  refine (mul64_any (x * y) z _ (by omega) (by omega) (by omega) (by omega) (by omega) (by omega)).mono ?_
  rintro e w' ⟨rfl, rfl⟩
  have t4 : decide (x * y * z < 0) = false := by simp; omega
  have t5 : (x * y * z != x * y * z) = false := by simp
  go_wp2_with fail
  go_ret
  exact ⟨rfl, rfl⟩

set_option maxHeartbeats 1000000 in
theorem bufLen_any (k : Nat) (hk : k ≤ 4) (a b c d : Int) (s : ByteArray) (w : World) (hf : Fine a b c d) :
    Calls Try.prog 50 #[.int .i64 k, box4 a b c d, .string s] w fun e w' => e = .returned (.int .i64 (total a b c d k)) ∧ Grows w w' := by
  have ht := total_eq k hf
  have HT : Hid ((k : Int) * (c - a) * (d - b) = (total a b c d k : Int)) := by
    unfold Hid
    rw [← ht, Int.mul_assoc, Int.mul_comm]
  have htl := total_le hk hf
  clear ht
  obtain ⟨⟨f1, f2⟩, ⟨f3, f4⟩, ⟨f5, f6⟩, ⟨f7, f8⟩⟩ := hf
  generalize total a b c d k = n at *
  go_enter Try.func50, Try.ntmps50
  go_wp2_with fail
  apply wp_region_lex_lit 7 (by kernel_rfl) (by kernel_rfl)
  iterate 2
    apply lex_pin
    · intro wq hgq hdq Kq hKq
      obtain ⟨hcq, _⟩ := hgq.cells
      go_wp2
      exact hKq _ (Grows.rfl' _)
    · kernel_rfl
  apply lex_pin
  · intro wq hgq hdq Kq hKq
    go_wp2_with fail
    refine (dx_any _ _ _ _ _ (by omega) (by omega)).mono ?_
    rintro e wq' ⟨rfl, hgq'⟩
    go_wp2_with fail
    exact hKq _ hgq'
  · kernel_rfl
  iterate 1
    apply lex_pin
    · intro wq hgq hdq Kq hKq
      obtain ⟨hcq, _⟩ := hgq.cells
      go_wp2
      exact hKq _ (Grows.rfl' _)
    · kernel_rfl
  apply lex_pin
  · intro wq hgq hdq Kq hKq
    go_wp2_with fail
    refine (dy_any _ _ _ _ _ (by omega) (by omega)).mono ?_
    rintro e wq' ⟨rfl, hgq'⟩
    go_wp2_with fail
    exact hKq _ hgq'
  · kernel_rfl
  apply lex_pin
  · intro wq hgq hdq Kq hKq
    go_wp2_with fail
    refine (mul3_any _ _ _ _ (by omega) (by omega) (by omega) (by omega) (by omega) (by omega)).mono ?_
    rintro e wq' ⟨rfl, rfl⟩
    rw [HT.out]
    go_wp2_with fail
    exact hKq _ (Grows.rfl' _)
  · kernel_rfl
  iterate 1
    apply lex_pin
    · intro wq hgq hdq Kq hKq
      go_wp2
      exact hKq _ (Grows.rfl' _)
    · kernel_rfl
  refine lex_end ?_
  intro w3 hg3 _
  have t1 : decide ((n : Int) < 0) = false := decide_eq_false (by omega)
  go_wp2
  go_ret
  exact ⟨rfl, ((Grows.rfl' w).alloc' _).drew'.step hg3⟩

/-! ### Images in memory -/
/-- Block ib is an image: its pixels' slice, its stride, its bounds. -/
def ImgAt (w : World) (ib : Nat) (pv : Value) (st a b c d : Int) : Prop := w.heap[ib]? = some (.cells #[pv, .int .i64 st, .int .i64 a, .int .i64 b, .int .i64 c, .int .i64 d] 75 (0, 0))
theorem ImgAt.lt {w : World} {ib : Nat} {pv : Value} {st a b c d : Int} (h : ImgAt w ib pv st a b c d) : ib < w.heap.size := by
  rcases Nat.lt_or_ge ib w.heap.size with h1 | h1
  · exact h1
  · unfold ImgAt at h; rw [Array.getElem?_eq_none h1] at h; cases h
theorem ImgAt.grows {w w' : World} {ib : Nat} {pv : Value} {st a b c d : Int} (h : ImgAt w ib pv st a b c d) (hg : Grows w w') : ImgAt w' ib pv st a b c d := (hg.block ib h.lt).trans h
theorem ImgAt.cells {w : World} {ib : Nat} {pv : Value} {st a b c d : Int} (h : ImgAt w ib pv st a b c d) :
    w.cell? ⟨ib, 0, none⟩ = some pv ∧ w.cell? ⟨ib, 1, none⟩ = some (.int .i64 st) ∧ w.cell? ⟨ib, 2, none⟩ = some (.int .i64 a) ∧ w.cell? ⟨ib, 3, none⟩ = some (.int .i64 b) ∧ w.cell? ⟨ib, 4, none⟩ = some (.int .i64 c) ∧ w.cell? ⟨ib, 5, none⟩ = some (.int .i64 d) := by
  unfold ImgAt at h
  simp [World.cell?, h]
theorem ImgAt.apart {w : World} {ib pb N : Nat} {pv : Value} {st a b c d : Int} {f : Nat → Int} (h : ImgAt w ib pv st a b c d) (hp : Px w pb N f) : ib ≠ pb := hp.apart h.cells.2.1
theorem ImgAt.kept {w w' : World} {ib pb : Nat} {pv : Value} {st a b c d : Int} (h : ImgAt w ib pv st a b c d) (hg : w.grownBy w' (some pb)) (hne : ib ≠ pb) : ImgAt w' ib pv st a b c d :=
  (hg.block ib h.lt (fun e => hne (by simpa using e))).trans h

/-- The result points to a new image with n bytes of its own. -/
def NewImg (a b c d st : Int) (n : Nat) (f : Nat → Int) (W : World) (e : Ending) (w' : World) : Prop :=
  ∃ ib pb, e = .returned (.pointer (some ⟨ib, 0, none⟩)) ∧ W.heap.size ≤ ib ∧ W.heap.size ≤ pb ∧ ImgAt w' ib (.slice (some ⟨pb, 0, none⟩) n n) st a b c d ∧ Px w' pb n f ∧ Grows W w'

set_option maxHeartbeats 1000000 in
theorem new_any (a b c d : Int) (w : World) (hf : Fine a b c d) : Calls Try.prog 42 #[box4 a b c d] w (NewImg a b c d (sd a c 4) (total a b c d 4) (fun _ => 0) w) := by
  have HF := Lib.hid hf
  have htl := total_le (k := 4) (by omega) hf
  obtain ⟨⟨f1, f2⟩, ⟨f3, f4⟩, ⟨f5, f6⟩, ⟨f7, f8⟩⟩ := hf
  have HB : Hid (∀ W, Calls Try.prog 50 #[.int .i64 4, box4 a b c d, .string ⟨#[67,77,89,75]⟩] W fun e w' => e = .returned (.int .i64 (total a b c d 4)) ∧ Grows W w') := fun W => bufLen_any 4 (by omega) a b c d _ W HF.out
  have hmk : ∀ W : World, (Instr.makeSlice 73 (.int .i64 (total a b c d 4 : Nat)) (.int .i64 (total a b c d 4 : Nat))).run Try.prog W = .ok (.slice (some ⟨W.heap.size, 0, none⟩) (total a b c d 4) (total a b c d 4)) (W.alloc (.cells (madeCells #[.int .u8 0] (total a b c d 4)) 5)) :=
    fun W => run_make_row' 73 5 (.int .u8 0) 1 Try.underlying73 info_byte rfl .i64 .i64 _ (by omega) (by omega) W
  clear HF
  generalize total a b c d 4 = n at *
  go_enter Try.func42, Try.ntmps42
  go_wp2_with fail
  apply wp_region_lex_lit 7 (by kernel_rfl) (by kernel_rfl)
  iterate 1
    apply lex_pin
    · intro wq hgq hdq Kq hKq
      obtain ⟨hcq, _⟩ := hgq.cells
      go_wp2
      exact hKq _ (Grows.rfl' _)
    · kernel_rfl
  apply lex_pin
  · intro wq hgq hdq Kq hKq
    go_wp2_with fail
    refine (HB.out _).mono ?_
    rintro e wq' ⟨rfl, hgq'⟩
    go_wp2_with fail
    exact hKq _ hgq'
  · kernel_rfl
  apply lex_any (fun v wx => ∃ pb, v = .slice (some ⟨pb, 0, none⟩) n n ∧ w.heap.size < pb ∧ Px wx pb n (fun _ => 0)) (fun v w1 w2 hg ⟨pb, h1, h2, h3⟩ => ⟨pb, h1, h2, h3.grows hg⟩)
  · intro wq hgq hdq Kq hKq
    have hsz : w.heap.size < wq.heap.size := by have := hgq.size; simp at this; omega
    go_wp2
    exact hKq _ _ ((Grows.rfl' _).alloc' _) ⟨wq.heap.size, rfl, hsz, World.rowIs_made _ _ _ _⟩
  intro v5
  simp only [Act.put, List.setIfInBounds_toArray, List.set_cons_succ, List.set_cons_zero]
  iterate 1
    apply lex_pinv
    · intro wq hgq hdq Kq hKq
      obtain ⟨hcq, _⟩ := hgq.cells
      go_wp2
      exact hKq _ (Grows.rfl' _)
    simp only [Act.put, List.setIfInBounds_toArray, List.set_cons_succ, List.set_cons_zero]
  apply lex_pinv
  · intro wq hgq hdq Kq hKq
    go_wp2_with fail
    refine (dx_any _ _ _ _ _ (by omega) (by omega)).mono ?_
    rintro e wq' ⟨rfl, hgq'⟩
    go_wp2_with fail
    exact hKq _ hgq'
  simp only [Act.put, List.setIfInBounds_toArray, List.set_cons_succ, List.set_cons_zero]
  iterate 1
    apply lex_pinv
    · intro wq hgq hdq Kq hKq
      go_wp2
      exact hKq _ (Grows.rfl' _)
    simp only [Act.put, List.setIfInBounds_toArray, List.set_cons_succ, List.set_cons_zero]
  iterate 1
    apply lex_pinv
    · intro wq hgq hdq Kq hKq
      obtain ⟨hcq, _⟩ := hgq.cells
      go_wp2
      exact hKq _ (Grows.rfl' _)
    simp only [Act.put, List.setIfInBounds_toArray, List.set_cons_succ, List.set_cons_zero]
  refine lex_end ?_
  intro w3 hg3 hd3
  obtain ⟨pb, rfl, hpb, hpx⟩ := hd3 2 _ rfl
  clear hd3 hmk HB
  have HP := Lib.hid hpx
  have HG3 : Hid (Grows w w3) := ((Grows.rfl' w).alloc' _).drew'.step hg3
  clear hg3 hpx
  go_wp2_with fail
  go_ret
  refine ⟨w3.heap.size, pb, rfl, HG3.out.size, by omega, ?_, World.rowIs.alloc HP.out _, HG3.out.alloc' _⟩
  have e : sd a c 4 = 4*(c-a) := by unfold sd; omega
  rw [e]
  exact heap_alloc_new _ _

set_option maxHeartbeats 1000000 in
theorem mk_any (a b c d : Int) (v : Value) (zs : List Int) (w : World) (hf : Fine a b c d) (h : RdI w v zs) : Calls Try.prog 36 #[box4 a b c d, v] w (NewImg a b c d (sd a c 4) (total a b c d 4) (byteAt zs) w) := by
  have HR := Lib.hid h
  have htl := total_le (k := 4) (by omega) hf
  have HF := Lib.hid hf
  obtain ⟨A, cc, rfl, _⟩ := h
  clear hf
  go_enter Try.func36, Try.ntmps36
  go_wp2_with fail
  refine (rectangle_any _ _ _ _ _).mono ?_
  rintro e w1 ⟨rfl, hg1⟩
  go_wp2_with fail
  refine (new_any _ _ _ _ _ HF.out).mono ?_
  rintro e w2 ⟨ib, pb, rfl, hib, hpb, him, hpx, hg2⟩
  have hg12 := ((Grows.rfl' w).alloc' _).step (hg1.step hg2)
  have HR2 := Lib.hid (HR.out.grows hg12)
  have HI := Lib.hid him
  have HP := Lib.hid hpx
  have HG := Lib.hid hg12
  have hw1 : w.heap.size ≤ w1.heap.size := Nat.le_trans (by simp) hg1.size
  obtain ⟨q0, _⟩ := him.cells
  clear hg12 hg1 hg2 hpx HR him
  generalize total a b c d 4 = n at *
  go_wp2_with fail
  refine (fill_any pb n 0 n n _ _ zs _ HP.out (by omega) (by omega) (by omega) HR2.out).mono ?_
  rintro e w3 ⟨rfl, hpx3, hgr⟩
  have HI3 := Lib.hid (HI.out.kept hgr (HI.out.apart HP.out))
  have HP3 : Hid (Px w3 pb n (byteAt zs)) := hpx3.congr (fun i hi => by
    unfold fillF byteAt
    by_cases h1 : i < zs.length
    · rw [if_pos (by omega)]; rfl
    · rw [if_neg (by omega), List.getD_eq_getElem?_getD, List.getElem?_eq_none (by omega)]; rfl)
  have HG3 : Hid (Grows w w3) := HG.out.grown' hgr (fun k hk => by
    have e : pb = k := by simpa using hk
    omega)
  clear hpx3 hgr q0
  go_wp2_with fail
  go_ret
  exact ⟨ib, pb, rfl, by omega, by omega, HI3.out, HP3.out, HG3.out⟩


end Go.Proofs.Ytfnmgkbeeckjnaa

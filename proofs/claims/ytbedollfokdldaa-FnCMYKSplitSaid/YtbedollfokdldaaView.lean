/-
  Contracts of image.CMYK's SetCMYK, CMYKAt, PixOffset and SubImage at a view (the whole image, a part of it, or nothing). Conditions stand in each theorem.
-/
import Derived.Test.YtbedollfokdldaaModel
import Derived.Test.YtbedollfokdldaaPut
import Derived.Test.YtbedollfokdldaaSub
namespace Go.Proofs.Ytbedollfokdldaa
open Go.RowKit
set_option linter.unusedVariables false

/-- Block ib is an image that shows v of the bytes pb of the image a b c d. -/
def ImgV (w : World) (a b c d : Int) (ib pb : Nat) (v : Bx) : Prop :=
  (v = (0, 0, 0, 0) ∧ ImgAt w ib (.slice none 0 0) 0 0 0 0 0) ∨
  ∃ o : Nat, ImgAt w ib (.slice (some ⟨pb, o, none⟩) (total a b c d 4 - o) (total a b c d 4 - o)) (sd a c 4) v.1 v.2.1 v.2.2.1 v.2.2.2 ∧ (v.2.1 - b) * sd a c 4 + (v.1 - a) * 4 = (o : Int) ∧ o ≤ total a b c d 4 ∧
    (a ≤ v.1 ∧ v.1 ≤ v.2.2.1 ∧ v.2.2.1 ≤ c ∧ b ≤ v.2.1 ∧ v.2.1 ≤ v.2.2.2 ∧ v.2.2.2 ≤ d)
theorem ImgV.grows {w w' : World} {a b c d : Int} {ib pb : Nat} {v : Bx} (h : ImgV w a b c d ib pb v) (hg : Grows w w') : ImgV w' a b c d ib pb v := by
  rcases h with ⟨h1, h2⟩ | ⟨o, h1, h2⟩
  · exact .inl ⟨h1, h2.grows hg⟩
  · exact .inr ⟨o, h1.grows hg, h2⟩
theorem ImgV.at {w : World} {a b c d : Int} {ib pb : Nat} {v : Bx} (h : ImgV w a b c d ib pb v) : ∃ pv st, ImgAt w ib pv st v.1 v.2.1 v.2.2.1 v.2.2.2 := by
  rcases h with ⟨rfl, h2⟩ | ⟨o, h1, h2⟩
  · exact ⟨_, _, h2⟩
  · exact ⟨_, _, h1⟩
theorem ImgV.block {w w' : World} {a b c d : Int} {ib pb : Nat} {v : Bx} (h : ImgV w a b c d ib pb v) (hb : w'.heap[ib]? = w.heap[ib]?) : ImgV w' a b c d ib pb v := by
  rcases h with ⟨h1, h2⟩ | ⟨o, h1, h2⟩
  · exact .inl ⟨h1, hb.trans h2⟩
  · exact .inr ⟨o, hb.trans h1, h2⟩
theorem ImgV.lt {w : World} {a b c d : Int} {ib pb : Nat} {v : Bx} (h : ImgV w a b c d ib pb v) : ib < w.heap.size := by
  obtain ⟨pv, st, h1⟩ := h.at
  exact h1.lt
theorem ImgV.inside {w : World} {a b c d x y : Int} {ib pb : Nat} {v : Bx} (h : ImgV w a b c d ib pb v) (hi : InB v x y) (hf : Fine a b c d) :
    ∃ o i : Nat, ImgAt w ib (.slice (some ⟨pb, o, none⟩) (total a b c d 4 - o) (total a b c d 4 - o)) (sd a c 4) v.1 v.2.1 v.2.2.1 v.2.2.2 ∧ (y - v.2.1) * sd a c 4 + (x - v.1) * 4 = (i : Int) ∧ i + 4 ≤ total a b c d 4 - o ∧ o ≤ total a b c d 4 ∧ o + i = pos a b c 4 x y ∧ v.2.2.1 - v.1 ≤ 1000 ∧ v.2.2.2 - v.2.1 ≤ 1000 := by
  obtain ⟨A, B, C, D⟩ := v
  rcases h with ⟨h1, h2⟩ | ⟨o, h1, h2, h3, h4⟩
  · unfold InB Inn at hi; simp only [Prod.mk.injEq] at h1; simp only at hi; omega
  · unfold InB Inn at hi
    simp only at h1 h2 h4 hi ⊢
    have hAB : Inn a b c d A B := by unfold Inn; omega
    have hxy : Inn a b c d x y := by unfold Inn; omega
    obtain ⟨j, hj, hjl⟩ := inside_at (k := 4) hf (by omega) hxy
    obtain ⟨e1, e2⟩ := at_part (k := 4) (by omega) (by omega) hf hAB hxy (by omega) (by omega) h2 hj
    obtain ⟨_, _, ⟨f5, f6⟩, ⟨f7, f8⟩⟩ := hf
    refine ⟨o, j - o, h1, e1, by omega, h3, ?_, by omega, by omega⟩
    unfold pos
    rw [hj]
    simp; omega

theorem setV (a b c d x y : Int) (ib pb : Nat) (v q : Bx) (f : Nat → Int) (w : World) (hf : Fine a b c d) (hI : ImgV w a b c d ib pb v) (hP : Px w pb (total a b c d 4) f) :
    Calls Try.prog 30 #[.pointer (some ⟨ib, 0, none⟩), .int .i64 x, .int .i64 y, .agg #[.int .u8 (q.1 % 256), .int .u8 (q.2.1 % 256), .int .u8 (q.2.2.1 % 256), .int .u8 (q.2.2.2 % 256)]] w fun e w' => e = .returned (.tuple #[]) ∧ Px w' pb (total a b c d 4) (putV a b c 4 v f x y (lows 4 q)) ∧ w.grownBy w' (some pb) := by
  have htl := total_le (k := 4) (by omega) hf
  have hsd := sd_in (k := 4) (by omega) hf
  unfold putV
  by_cases hin : InB v x y
  · obtain ⟨o, i, h1, h2, h3, h4, h5, h6, h7⟩ := hI.inside hin hf
    rw [if_pos hin, ← h5]
    exact set_in ib pb o _ _ i f _ v.1 v.2.1 v.2.2.1 v.2.2.2 x y _ _ _ _ w h1 hP hin h6 h7 hsd.1 hsd.2 h2 (by omega) (by omega) (by omega)
  · obtain ⟨pv, st, h1⟩ := hI.at
    rw [if_neg hin]
    refine (set_out ib pv st v.1 v.2.1 v.2.2.1 v.2.2.2 x y _ _ _ _ w h1 hin).mono ?_
    rintro e w' ⟨rfl, h2⟩
    exact ⟨rfl, hP.grows h2, grown_of h2⟩

theorem atV (a b c d x y : Int) (ib pb : Nat) (v : Bx) (f : Nat → Int) (w : World) (hf : Fine a b c d) (hI : ImgV w a b c d ib pb v) (hP : Px w pb (total a b c d 4) f) :
    Calls Try.prog 33 #[.pointer (some ⟨ib, 0, none⟩), .int .i64 x, .int .i64 y] w fun e w' => e = .returned (.agg #[.int .u8 (getV a b c 4 v f x y 0), .int .u8 (getV a b c 4 v f x y 1), .int .u8 (getV a b c 4 v f x y 2), .int .u8 (getV a b c 4 v f x y 3)]) ∧ Grows w w' := by
  have htl := total_le (k := 4) (by omega) hf
  have hsd := sd_in (k := 4) (by omega) hf
  unfold getV
  by_cases hin : InB v x y
  · obtain ⟨o, i, h1, h2, h3, h4, h5, h6, h7⟩ := hI.inside hin hf
    simp only [if_pos hin, ← h5]
    exact famAt_in ib pb o _ _ i f _ v.1 v.2.1 v.2.2.1 v.2.2.2 x y w h1 hP hin h6 h7 hsd.1 hsd.2 h2 h3 (by omega) (by omega)
  · obtain ⟨pv, st, h1⟩ := hI.at
    simp only [if_neg hin]
    exact famAt_out ib pv st v.1 v.2.1 v.2.2.1 v.2.2.2 x y w h1 hin

set_option maxHeartbeats 1000000 in
theorem pixOffset_some (ib : Nat) (pv : Value) (st a b c d x y : Int) (w : World) (hI : ImgAt w ib pv st a b c d) :
    Calls Try.prog 34 #[.pointer (some ⟨ib, 0, none⟩), .int .i64 x, .int .i64 y] w fun e w' => ∃ n, e = .returned (.int .i64 n) ∧ I64 n ∧ Grows w w' := by
  have HI := Lib.hid hI
  clear hI
  go_enter Try.func34, Try.ntmps34
  go_wp2_with fail
  apply wp_region_lex_lit 24 (by kernel_rfl) (by kernel_rfl)
  iterate 24
    apply lex_pin
    · intro wq hgq hdq Kq hKq
      obtain ⟨q0, q1, q2, q3, q4, q5⟩ := (HI.out.grows ((Grows.rfl' _).drew'.step hgq)).cells
      go_wp2
      exact hKq _ (Grows.rfl' _)
    · kernel_rfl
  refine lex_end ?_
  intro w3 hg3 _
  go_wp2
  go_ret
  exact ⟨_, rfl, by unfold I64 wrap64; omega, (Grows.rfl' _).drew'.step hg3⟩

theorem offV_any (a b c d x y : Int) (ib pb : Nat) (v : Bx) (w : World) (hf : Fine a b c d) (hI : ImgV w a b c d ib pb v) :
    Calls Try.prog 34 #[.pointer (some ⟨ib, 0, none⟩), .int .i64 x, .int .i64 y] w fun e w' => ∃ n, e = .returned (.int .i64 n) ∧ I64 n ∧ (InB v x y → n = offV a c 4 v x y) ∧ Grows w w' := by
  have htl := total_le (k := 4) (by omega) hf
  have hsd := sd_in (k := 4) (by omega) hf
  by_cases hin : InB v x y
  · obtain ⟨o, i, h1, h2, h3, h4, h5, h6, h7⟩ := hI.inside hin hf
    have hin' := hin
    obtain ⟨i1, i2, i3, i4⟩ := hin'
    refine (pixOffset_in ib i _ _ v.1 v.2.1 v.2.2.1 v.2.2.2 x y w h1 (by omega) (by omega) (by omega) (by omega) hsd.1 hsd.2 h2).mono ?_
    rintro e w' ⟨rfl, hg⟩
    exact ⟨_, rfl, by unfold I64; omega, fun _ => h2.symm, hg⟩
  · obtain ⟨pv, st, h1⟩ := hI.at
    refine (pixOffset_some ib pv st v.1 v.2.1 v.2.2.1 v.2.2.2 x y w h1).mono ?_
    rintro e w' ⟨n, rfl, h2, hg⟩
    exact ⟨n, rfl, h2, fun h => absurd h hin, hg⟩

theorem subV (a b c d : Int) (ib pb : Nat) (v q : Bx) (w : World) (hf : Fine a b c d) (hI : ImgV w a b c d ib pb v) :
    Calls Try.prog 35 #[.pointer (some ⟨ib, 0, none⟩), box4 q.1 q.2.1 q.2.2.1 q.2.2.2] w fun e w' => ∃ ib', e = .returned (.iface 62 (.pointer (some ⟨ib', 0, none⟩))) ∧ w.heap.size ≤ ib' ∧ ImgV w' a b c d ib' pb (interB v q) ∧ Grows w w' := by
  have htl := total_le (k := 4) (by omega) hf
  have hsd := sd_in (k := 4) (by omega) hf
  obtain ⟨A, B, C, D⟩ := v
  obtain ⟨x0, y0, x1, y1⟩ := q
  by_cases hm : Meet A B C D x0 y0 x1 y1
  · rw [interB_yes hm]
    have hm' := hm
    obtain ⟨m1, m2⟩ := hm'
    rcases hI with ⟨h1, h2⟩ | ⟨o, h1, h2, h3, h4⟩
    · simp only [Prod.mk.injEq] at h1; omega
    · simp only at h1 h2 h4 ⊢
      have hAB : Inn a b c d A B := by unfold Inn; omega
      have hMM : Inn a b c d (max A x0) (max B y0) := by unfold Inn; omega
      obtain ⟨j, hj, hjl⟩ := inside_at (k := 4) hf (by omega) hMM
      obtain ⟨e1, e2⟩ := at_part (k := 4) (by omega) (by omega) hf hAB hMM (by omega) (by omega) h2 hj
      obtain ⟨_, _, ⟨f5, f6⟩, ⟨f7, f8⟩⟩ := hf
      have h := sub_yes ib pb o _ (j - o) _ A B C D x0 y0 x1 y1 w h1 hm.symm (by omega) (by omega) hsd.1 hsd.2 (by rw [Int.max_comm x0 A, Int.max_comm y0 B]; exact e1) (by omega) (by omega)
      refine h.mono ?_
      rintro e w' ⟨ib', rfl, k1, k2, k3⟩
      rw [Int.max_comm x0 A, Int.max_comm y0 B, Int.min_comm x1 C, Int.min_comm y1 D] at k2
      have e3 : o + (j - o) = j := by omega
      have e4 : total a b c d 4 - o - (j - o) = total a b c d 4 - j := by omega
      rw [e3, e4] at k2
      exact ⟨ib', rfl, k1, .inr ⟨j, k2, hj, by omega, by simp only; omega⟩, k3⟩
  · rw [interB_no hm]
    obtain ⟨pv, st, h1⟩ := hI.at
    refine (sub_no ib pv st A B C D x0 y0 x1 y1 w h1 fun h => hm h.symm).mono ?_
    rintro e w' ⟨ib', rfl, k1, k2, k3⟩
    exact ⟨ib', rfl, k1, .inl ⟨rfl, k2⟩, k3⟩
end Go.Proofs.Ytbedollfokdldaa

/-
  Contracts of the reference's Common and of the library's Intersect and Empty; boxes for rectangles. Conditions stand in each theorem.
-/
import Derived.Test.YtfnmgkbeeckjnaaGeo
import Derived.Test.YtfnmgkbeeckjnaaFlo
import Derived.Deep.Cut
namespace Go.Proofs.Ytfnmgkbeeckjnaa
open Go.RowKit
set_option linter.unusedVariables false

/-! ### Four ints in a block of their own -/
def Blk4 (w : World) (n : Nat) (t : TypeId) (a b c d : Int) : Prop := w.heap[n]? = some (.cells #[.int .i64 a, .int .i64 b, .int .i64 c, .int .i64 d] t (0, 0))
section
variable {w : World} {n : Nat} {t : TypeId} {a b c d : Int}
theorem Blk4.lt (h : Blk4 w n t a b c d) : n < w.heap.size := (Array.getElem?_eq_some_iff.1 h).1
theorem Blk4.cells (h : Blk4 w n t a b c d) : w.cell? ⟨n, 0, none⟩ = some (.int .i64 a) ∧ w.cell? ⟨n, 1, none⟩ = some (.int .i64 b) ∧ w.cell? ⟨n, 2, none⟩ = some (.int .i64 c) ∧ w.cell? ⟨n, 3, none⟩ = some (.int .i64 d) := by
  unfold Blk4 at h
  simp [World.cell?, h]
theorem Blk4.frozen (h : Blk4 w n t a b c d) (i : Nat) : w.frozen? ⟨n, i, none⟩ = false := by
  unfold Blk4 at h
  simp [World.frozen?, h]
theorem Blk4.grows {w' : World} (h : Blk4 w n t a b c d) (hg : Grows w w') : Blk4 w' n t a b c d := (hg.block n h.lt).trans h
theorem Blk4.other (h : Blk4 w n t a b c d) {p : Addr} (hne : p.block ≠ n) (u : Value) : Blk4 (w.setCell p u) n t a b c d := (Below.heap_setCell w p u n hne.symm).trans h
theorem Blk4.set0 (h : Blk4 w n t a b c d) (x : Int) : Blk4 (w.setCell ⟨n, 0, none⟩ (.int .i64 x)) n t x b c d := by
  unfold Blk4 at *
  simp [World.setCell, Array.getElem?_modify, h]
theorem Blk4.set1 (h : Blk4 w n t a b c d) (x : Int) : Blk4 (w.setCell ⟨n, 1, none⟩ (.int .i64 x)) n t a x c d := by
  unfold Blk4 at *
  simp [World.setCell, Array.getElem?_modify, h]
theorem Blk4.set2 (h : Blk4 w n t a b c d) (x : Int) : Blk4 (w.setCell ⟨n, 2, none⟩ (.int .i64 x)) n t a b x d := by
  unfold Blk4 at *
  simp [World.setCell, Array.getElem?_modify, h]
theorem Blk4.set3 (h : Blk4 w n t a b c d) (x : Int) : Blk4 (w.setCell ⟨n, 3, none⟩ (.int .i64 x)) n t a b c x := by
  unfold Blk4 at *
  simp [World.setCell, Array.getElem?_modify, h]
end

theorem heap_top {w : World} {o : Obj} {b : Nat} (hb : b = w.heap.size) : (w.alloc o).heap[b]? = some o := by
  subst hb
  exact heap_alloc_new _ _

/-- Three blocks of four ints, and growth since W: what an 'if' of Common and of Intersect leaves. -/
def Tri (W w : World) (n1 n2 n3 : Nat) (t : TypeId) (a' b' c' d' a b c d : Int) : Prop := Blk4 w n1 t a' b' c' d' ∧ Blk4 w n2 t 0 0 0 0 ∧ Blk4 w n3 t a b c d ∧ Grows W w

section
variable {W w : World} {n1 n2 n3 : Nat} {t : TypeId} {a' b' c' d' a b c d : Int}
theorem Tri.put0 (h : Tri W w n1 n2 n3 t a' b' c' d' a b c d) (h1 : n3 ≠ n1) (h2 : n3 ≠ n2) (hW : W.heap.size ≤ n3) (x : Int) : Tri W (w.setCell ⟨n3, 0, none⟩ (.int .i64 x)) n1 n2 n3 t a' b' c' d' x b c d := ⟨h.1.other h1 _, h.2.1.other h2 _, h.2.2.1.set0 x, h.2.2.2.set' hW _⟩
theorem Tri.put1 (h : Tri W w n1 n2 n3 t a' b' c' d' a b c d) (h1 : n3 ≠ n1) (h2 : n3 ≠ n2) (hW : W.heap.size ≤ n3) (x : Int) : Tri W (w.setCell ⟨n3, 1, none⟩ (.int .i64 x)) n1 n2 n3 t a' b' c' d' a x c d := ⟨h.1.other h1 _, h.2.1.other h2 _, h.2.2.1.set1 x, h.2.2.2.set' hW _⟩
theorem Tri.put2 (h : Tri W w n1 n2 n3 t a' b' c' d' a b c d) (h1 : n3 ≠ n1) (h2 : n3 ≠ n2) (hW : W.heap.size ≤ n3) (x : Int) : Tri W (w.setCell ⟨n3, 2, none⟩ (.int .i64 x)) n1 n2 n3 t a' b' c' d' a b x d := ⟨h.1.other h1 _, h.2.1.other h2 _, h.2.2.1.set2 x, h.2.2.2.set' hW _⟩
theorem Tri.put3 (h : Tri W w n1 n2 n3 t a' b' c' d' a b c d) (h1 : n3 ≠ n1) (h2 : n3 ≠ n2) (hW : W.heap.size ≤ n3) (x : Int) : Tri W (w.setCell ⟨n3, 3, none⟩ (.int .i64 x)) n1 n2 n3 t a' b' c' d' a b c x := ⟨h.1.other h1 _, h.2.1.other h2 _, h.2.2.1.set3 x, h.2.2.2.set' hW _⟩
theorem of_eq_arg0 {x y : Int} (e : y = x) (h : Tri W w n1 n2 n3 t a' b' c' d' x b c d) : Tri W w n1 n2 n3 t a' b' c' d' y b c d := e ▸ h
theorem of_eq_arg1 {x y : Int} (e : y = x) (h : Tri W w n1 n2 n3 t a' b' c' d' a x c d) : Tri W w n1 n2 n3 t a' b' c' d' a y c d := e ▸ h
theorem of_eq_arg2 {x y : Int} (e : y = x) (h : Tri W w n1 n2 n3 t a' b' c' d' a b x d) : Tri W w n1 n2 n3 t a' b' c' d' a b y d := e ▸ h
theorem of_eq_arg3 {x y : Int} (e : y = x) (h : Tri W w n1 n2 n3 t a' b' c' d' a b c x) : Tri W w n1 n2 n3 t a' b' c' d' a b c y := e ▸ h
end

/-! ### Empty -/
set_option maxHeartbeats 1000000 in
theorem emp_no (a b c d : Int) (w : World) (h1 : a < c) (h2 : b < d) : Calls Try.prog 45 #[box4 a b c d] w fun e w' => e = .returned (.bool false) ∧ Grows w w' := by
  have t1 : decide (c ≤ a) = false := decide_eq_false (by omega)
  have t2 : decide (d ≤ b) = false := decide_eq_false (by omega)
  go_enter Try.func45, Try.ntmps45
  go_wp2
  go_ret
  exact ⟨by first | rfl | exact ret_bool (by simp; omega), (Grows.rfl' _).alloc' _⟩

set_option maxHeartbeats 1000000 in
theorem emp_yes (a b c d : Int) (w : World) (h : ¬ (a < c ∧ b < d)) : Calls Try.prog 45 #[box4 a b c d] w fun e w' => e = .returned (.bool true) ∧ Grows w w' := by
  have h' : c ≤ a ∨ (a < c ∧ d ≤ b) := by omega
  clear h
  rcases h' with h1 | ⟨h1, h2⟩
  all_goals
    (try first | (have t1 : decide (c ≤ a) = true := decide_eq_true (by omega)) | (have t1 : decide (c ≤ a) = false := decide_eq_false (by omega)))
    (try first | (have t2 : decide (d ≤ b) = true := decide_eq_true (by omega)) | (have t2 : decide (d ≤ b) = false := decide_eq_false (by omega)))
    go_enter Try.func45, Try.ntmps45
    go_wp2
    go_ret
    exact ⟨by first | rfl | exact ret_bool (by simp; omega), (Grows.rfl' _).alloc' _⟩

/-! ### The points that are in both -/
/-- There is a point in both. -/
def Meet (a b c d a' b' c' d' : Int) : Prop := max a a' < min c c' ∧ max b b' < min d d'
instance (a b c d a' b' c' d' : Int) : Decidable (Meet a b c d a' b' c' d') := by unfold Meet; exact inferInstance
/-- The rectangle of the points in both; 0 if there is none. -/
def both (a b c d a' b' c' d' : Int) : Value := if Meet a b c d a' b' c' d' then box4 (max a a') (max b b') (min c c') (min d d') else box4 0 0 0 0

theorem both_yes {a b c d a' b' c' d' : Int} (h : Meet a b c d a' b' c' d') : both a b c d a' b' c' d' = box4 (max a a') (max b b') (min c c') (min d d') := if_pos h
theorem both_no {a b c d a' b' c' d' : Int} (h : ¬ Meet a b c d a' b' c' d') : both a b c d a' b' c' d' = box4 0 0 0 0 := if_neg h


theorem Meet.symm {a b c d a' b' c' d' : Int} (h : Meet a b c d a' b' c' d') : Meet a' b' c' d' a b c d := by unfold Meet at *; omega

/-- A box for a rectangle, made since the world W. -/
def RectBox (W : World) (v : Value) (w : World) : Prop := ∃ rb, v = .pointer (some ⟨rb, 0, none⟩) ∧ W.heap.size ≤ rb ∧ ∃ a b c d, Blk4 w rb 40 a b c d
theorem RectBox.keep {W : World} (v : Value) (w w' : World) (hg : Grows w w') (h : RectBox W v w) : RectBox W v w' := by
  obtain ⟨rb, h1, h2, a, b, c, d, h3⟩ := h
  exact ⟨rb, h1, h2, a, b, c, d, h3.grows hg⟩
/-- .. with a rectangle in it. -/
def RectIn (W : World) (a b c d : Int) (v : Value) (w : World) : Prop := ∃ rb, v = .pointer (some ⟨rb, 0, none⟩) ∧ W.heap.size ≤ rb ∧ Blk4 w rb 40 a b c d
theorem RectIn.keep {W : World} {a b c d : Int} (v : Value) (w w' : World) (hg : Grows w w') (h : RectIn W a b c d v w) : RectIn W a b c d v w' := by
  obtain ⟨rb, h1, h2, h3⟩ := h
  exact ⟨rb, h1, h2, h3.grows hg⟩

set_option maxHeartbeats 2000000 in
theorem intersect_any (a b c d a' b' c' d' : Int) (w : World) : Calls Try.prog 44 #[box4 a b c d, box4 a' b' c' d'] w fun e w' => e = .returned (both a b c d a' b' c' d') ∧ Grows w w' := by
  go_enter Try.func44, Try.ntmps44
  go_upto_region 1 with fail
  have HT : Hid (Tri w (((w.alloc (.cells #[.int .i64 a, .int .i64 b, .int .i64 c, .int .i64 d] 70)).alloc (.cells #[.int .i64 a', .int .i64 b', .int .i64 c', .int .i64 d'] 70)).alloc (.cells #[.int .i64 0, .int .i64 0, .int .i64 0, .int .i64 0] 70)) (w.heap.size + 1) (w.heap.size + 1 + 1) (w.heap.size) 70 a' b' c' d' a b c d) := by
    refine ⟨?_, ?_, ?_, (((Grows.rfl' w).alloc' _).alloc' _).alloc' _⟩
    · unfold Blk4
      rw [heap_alloc_old _ _ (by simp)]
      have := heap_alloc_new (w.alloc (.cells #[.int .i64 a, .int .i64 b, .int .i64 c, .int .i64 d] 70)) (.cells #[.int .i64 a', .int .i64 b', .int .i64 c', .int .i64 d'] 70)
      rw [World.size_alloc] at this
      exact this
    · unfold Blk4
      have := heap_alloc_new ((w.alloc (.cells #[.int .i64 a, .int .i64 b, .int .i64 c, .int .i64 d] 70)).alloc (.cells #[.int .i64 a', .int .i64 b', .int .i64 c', .int .i64 d'] 70)) (.cells #[.int .i64 0, .int .i64 0, .int .i64 0, .int .i64 0] 70)
      rw [World.size_alloc, World.size_alloc] at this
      exact this
    · unfold Blk4
      rw [heap_alloc_old _ _ (by first | (simp; done) | (simp; omega)), heap_alloc_old _ _ (by simp)]
      exact heap_alloc_new _ _
  generalize ((w.alloc (.cells #[.int .i64 a, .int .i64 b, .int .i64 c, .int .i64 d] 70)).alloc (.cells #[.int .i64 a', .int .i64 b', .int .i64 c', .int .i64 d'] 70)).alloc (.cells #[.int .i64 0, .int .i64 0, .int .i64 0, .int .i64 0] 70) = w1 at *
  obtain ⟨k1a, k1b, k1c, k1d⟩ := HT.out.1.cells
  obtain ⟨k3a, k3b, k3c, k3d⟩ := HT.out.2.2.1.cells
  have k3f := HT.out.2.2.1.frozen
  go_upto_if 11 with fail
  go_cut [] from 5 (fun wr => Tri w wr (w.heap.size + 1) (w.heap.size + 1 + 1) (w.heap.size) 70 a' b' c' d' (max a a') b c d)
  case first =>
    have HP := Lib.hid (HT.out.put0 (by omega) (by omega) (by omega) a')
    go_wp2_with fail
    all_goals go_meet
    all_goals first | (refine of_eq_arg0 (show (max a a') = a' by omega) HP.out) | (refine of_eq_arg0 (show (max a a') = a by omega) HT.out)
  case rest =>
  clear HT k1a k1b k1c k1d k3a k3b k3c k3d k3f
  have HT := Lib.hid hcut
  clear hcut
  obtain ⟨k1a, k1b, k1c, k1d⟩ := HT.out.1.cells
  obtain ⟨k3a, k3b, k3c, k3d⟩ := HT.out.2.2.1.cells
  have k3f := HT.out.2.2.1.frozen
  generalize wc = w2 at *
  go_upto_if 23 with fail
  go_cut [] from 5 (fun wr => Tri w wr (w.heap.size + 1) (w.heap.size + 1 + 1) (w.heap.size) 70 a' b' c' d' (max a a') (max b b') c d)
  case first =>
    have HP := Lib.hid (HT.out.put1 (by omega) (by omega) (by omega) b')
    go_wp2_with fail
    all_goals go_meet
    all_goals first | (refine of_eq_arg1 (show (max b b') = b' by omega) HP.out) | (refine of_eq_arg1 (show (max b b') = b by omega) HT.out)
  case rest =>
  clear HT k1a k1b k1c k1d k3a k3b k3c k3d k3f
  have HT := Lib.hid hcut
  clear hcut
  obtain ⟨k1a, k1b, k1c, k1d⟩ := HT.out.1.cells
  obtain ⟨k3a, k3b, k3c, k3d⟩ := HT.out.2.2.1.cells
  have k3f := HT.out.2.2.1.frozen
  generalize wc = w3 at *
  go_upto_if 35 with fail
  go_cut [] from 5 (fun wr => Tri w wr (w.heap.size + 1) (w.heap.size + 1 + 1) (w.heap.size) 70 a' b' c' d' (max a a') (max b b') (min c c') d)
  case first =>
    have HP := Lib.hid (HT.out.put2 (by omega) (by omega) (by omega) c')
    go_wp2_with fail
    all_goals go_meet
    all_goals first | (refine of_eq_arg2 (show (min c c') = c' by omega) HP.out) | (refine of_eq_arg2 (show (min c c') = c by omega) HT.out)
  case rest =>
  clear HT k1a k1b k1c k1d k3a k3b k3c k3d k3f
  have HT := Lib.hid hcut
  clear hcut
  obtain ⟨k1a, k1b, k1c, k1d⟩ := HT.out.1.cells
  obtain ⟨k3a, k3b, k3c, k3d⟩ := HT.out.2.2.1.cells
  have k3f := HT.out.2.2.1.frozen
  generalize wc = w4 at *
  go_upto_if 47 with fail
  go_cut [] from 5 (fun wr => Tri w wr (w.heap.size + 1) (w.heap.size + 1 + 1) (w.heap.size) 70 a' b' c' d' (max a a') (max b b') (min c c') (min d d'))
  case first =>
    have HP := Lib.hid (HT.out.put3 (by omega) (by omega) (by omega) d')
    go_wp2_with fail
    all_goals go_meet
    all_goals first | (refine of_eq_arg3 (show (min d d') = d' by omega) HP.out) | (refine of_eq_arg3 (show (min d d') = d by omega) HT.out)
  case rest =>
  clear HT k1a k1b k1c k1d k3a k3b k3c k3d k3f
  have HT := Lib.hid hcut
  clear hcut
  obtain ⟨k1a, k1b, k1c, k1d⟩ := HT.out.1.cells
  obtain ⟨k3a, k3b, k3c, k3d⟩ := HT.out.2.2.1.cells
  have k3f := HT.out.2.2.1.frozen
  generalize wc = w5 at *
  obtain ⟨k2a, k2b, k2c, k2d⟩ := HT.out.2.1.cells
  have k2f := HT.out.2.1.frozen
  have HK := Lib.hid HT.out
  clear HT k1a k1b k1c k1d
  by_cases hm : Meet a b c d a' b' c' d'
  · have HB := Lib.hid (both_yes hm)
    obtain ⟨hm1, hm2⟩ := hm
    generalize max a a' = A at *
    generalize max b b' = B at *
    generalize min c c' = C at *
    generalize min d d' = D at *
    go_wp2_with fail
    refine (emp_no _ _ _ _ _ hm1 hm2).mono ?_
    rintro e w6 ⟨rfl, hg6⟩
    clear k2a k2b k2c k2d k2f k3a k3b k3c k3d k3f
    obtain ⟨k2a, k2b, k2c, k2d⟩ := (HK.out.2.1.grows hg6).cells
    have k2f := (HK.out.2.1.grows hg6).frozen
    obtain ⟨k3a, k3b, k3c, k3d⟩ := (HK.out.2.2.1.grows hg6).cells
    have HG := Lib.hid (HK.out.2.2.2.step hg6)
    clear hg6 HK
    go_wp2_with fail
    refine bodyPost_ret (v := box4 A B C D) (by simp [results, Try.results44, go_sem, k2a, k2b, k2c, k2d]) rfl ⟨by rw [HB.out], ?_⟩
    iterate 4 refine Grows.set' ?_ (by dsimp only; omega) _
    exact HG.out
  · have HB := Lib.hid (both_no hm)
    have HM := Lib.hid hm
    clear hm
    go_wp2_with fail
    refine (emp_yes _ _ _ _ _ HM.out).mono ?_
    rintro e w6 ⟨rfl, hg6⟩
    clear k2a k2b k2c k2d k2f k3a k3b k3c k3d k3f
    obtain ⟨k2a, k2b, k2c, k2d⟩ := (HK.out.2.1.grows hg6).cells
    have k2f := (HK.out.2.1.grows hg6).frozen
    have HG := Lib.hid (HK.out.2.2.2.step hg6)
    clear hg6 HK
    go_wp2_with fail
    refine bodyPost_ret (v := box4 0 0 0 0) (by simp [results, Try.results44, go_sem, k2a, k2b, k2c, k2d]) rfl ⟨by rw [HB.out], ?_⟩
    iterate 4 refine Grows.set' ?_ (by dsimp only; omega) _
    exact HG.out
end Go.Proofs.Ytfnmgkbeeckjnaa

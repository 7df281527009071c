/-
  Contracts of the reference's Common, of the library's Intersect, Empty and of image.Alpha's SubImage at an image in memory, and of the thin package's AlphaSub. Conditions stand in each theorem.
-/
import Derived.Test.YtcgdafcjipfccaaSamePic
import Derived.Test.YtcgdafcjipfccaaFamAt
import Derived.Test.YtcgdafcjipfccaaFlo
import Derived.Deep.Cut
namespace Go.Proofs.Ytcgdafcjipfccaa
open Go.RowKit
set_option linter.unusedVariables false

/-! ### Four ints in a block of their own -/
def Blk4 (w : World) (n : Nat) (t : TypeId) (a b c d : Int) : Prop := w.heap[n]? = some (.cells #[.int .i64 a, .int .i64 b, .int .i64 c, .int .i64 d] t (0, 0))
section
variable {w : World} {n : Nat} {t : TypeId} {a b c d : Int}
theorem Blk4.lt (h : Blk4 w n t a b c d) : n < w.heap.size := (Array.getElem?_eq_some_iff.1 h).1
theorem Blk4.cells (h : Blk4 w n t a b c d) : w.cell? ⟨n, 0, none⟩ = some (.int .i64 a) ∧ w.cell? ⟨n, 1, none⟩ = some (.int .i64 b) ∧ w.cell? ⟨n, 2, none⟩ = some (.int .i64 c) ∧ w.cell? ⟨n, 3, none⟩ = some (.int .i64 d) := by
  unfold Blk4 at h
  simp [World.cell?, h]
theorem Blk4.frozen (h : Blk4 w n t a b c d) (i : Nat) : w.frozen? ⟨n, i, none⟩ = false := by
  unfold Blk4 at h
  simp [World.frozen?, h]
theorem Blk4.grows {w' : World} (h : Blk4 w n t a b c d) (hg : Grows w w') : Blk4 w' n t a b c d := (hg.block n h.lt).trans h
theorem Blk4.other (h : Blk4 w n t a b c d) {p : Addr} (hne : p.block ≠ n) (u : Value) : Blk4 (w.setCell p u) n t a b c d := (Below.heap_setCell w p u n hne.symm).trans h
theorem Blk4.set0 (h : Blk4 w n t a b c d) (x : Int) : Blk4 (w.setCell ⟨n, 0, none⟩ (.int .i64 x)) n t x b c d := by
  unfold Blk4 at *
  simp [World.setCell, Array.getElem?_modify, h]
theorem Blk4.set1 (h : Blk4 w n t a b c d) (x : Int) : Blk4 (w.setCell ⟨n, 1, none⟩ (.int .i64 x)) n t a x c d := by
  unfold Blk4 at *
  simp [World.setCell, Array.getElem?_modify, h]
theorem Blk4.set2 (h : Blk4 w n t a b c d) (x : Int) : Blk4 (w.setCell ⟨n, 2, none⟩ (.int .i64 x)) n t a b x d := by
  unfold Blk4 at *
  simp [World.setCell, Array.getElem?_modify, h]
theorem Blk4.set3 (h : Blk4 w n t a b c d) (x : Int) : Blk4 (w.setCell ⟨n, 3, none⟩ (.int .i64 x)) n t a b c x := by
  unfold Blk4 at *
  simp [World.setCell, Array.getElem?_modify, h]
end

theorem heap_top {w : World} {o : Obj} {b : Nat} (hb : b = w.heap.size) : (w.alloc o).heap[b]? = some o := by
  subst hb
  exact heap_alloc_new _ _

/-- Three blocks of four ints, and growth since W: what an 'if' of Common and of Intersect leaves. -/
def Tri (W w : World) (n1 n2 n3 : Nat) (t : TypeId) (a' b' c' d' a b c d : Int) : Prop := Blk4 w n1 t a' b' c' d' ∧ Blk4 w n2 t 0 0 0 0 ∧ Blk4 w n3 t a b c d ∧ Grows W w

section
variable {W w : World} {n1 n2 n3 : Nat} {t : TypeId} {a' b' c' d' a b c d : Int}
theorem Tri.put0 (h : Tri W w n1 n2 n3 t a' b' c' d' a b c d) (h1 : n3 ≠ n1) (h2 : n3 ≠ n2) (hW : W.heap.size ≤ n3) (x : Int) : Tri W (w.setCell ⟨n3, 0, none⟩ (.int .i64 x)) n1 n2 n3 t a' b' c' d' x b c d := ⟨h.1.other h1 _, h.2.1.other h2 _, h.2.2.1.set0 x, h.2.2.2.set' hW _⟩
theorem Tri.put1 (h : Tri W w n1 n2 n3 t a' b' c' d' a b c d) (h1 : n3 ≠ n1) (h2 : n3 ≠ n2) (hW : W.heap.size ≤ n3) (x : Int) : Tri W (w.setCell ⟨n3, 1, none⟩ (.int .i64 x)) n1 n2 n3 t a' b' c' d' a x c d := ⟨h.1.other h1 _, h.2.1.other h2 _, h.2.2.1.set1 x, h.2.2.2.set' hW _⟩
theorem Tri.put2 (h : Tri W w n1 n2 n3 t a' b' c' d' a b c d) (h1 : n3 ≠ n1) (h2 : n3 ≠ n2) (hW : W.heap.size ≤ n3) (x : Int) : Tri W (w.setCell ⟨n3, 2, none⟩ (.int .i64 x)) n1 n2 n3 t a' b' c' d' a b x d := ⟨h.1.other h1 _, h.2.1.other h2 _, h.2.2.1.set2 x, h.2.2.2.set' hW _⟩
theorem Tri.put3 (h : Tri W w n1 n2 n3 t a' b' c' d' a b c d) (h1 : n3 ≠ n1) (h2 : n3 ≠ n2) (hW : W.heap.size ≤ n3) (x : Int) : Tri W (w.setCell ⟨n3, 3, none⟩ (.int .i64 x)) n1 n2 n3 t a' b' c' d' a b c x := ⟨h.1.other h1 _, h.2.1.other h2 _, h.2.2.1.set3 x, h.2.2.2.set' hW _⟩
theorem of_eq_arg0 {x y : Int} (e : y = x) (h : Tri W w n1 n2 n3 t a' b' c' d' x b c d) : Tri W w n1 n2 n3 t a' b' c' d' y b c d := e ▸ h
theorem of_eq_arg1 {x y : Int} (e : y = x) (h : Tri W w n1 n2 n3 t a' b' c' d' a x c d) : Tri W w n1 n2 n3 t a' b' c' d' a y c d := e ▸ h
theorem of_eq_arg2 {x y : Int} (e : y = x) (h : Tri W w n1 n2 n3 t a' b' c' d' a b x d) : Tri W w n1 n2 n3 t a' b' c' d' a b y d := e ▸ h
theorem of_eq_arg3 {x y : Int} (e : y = x) (h : Tri W w n1 n2 n3 t a' b' c' d' a b c x) : Tri W w n1 n2 n3 t a' b' c' d' a b c y := e ▸ h
end

/-! ### Empty -/
set_option maxHeartbeats 1000000 in
theorem emp_no (a b c d : Int) (w : World) (h1 : a < c) (h2 : b < d) : Calls Try.prog 42 #[box4 a b c d] w fun e w' => e = .returned (.bool false) ∧ Grows w w' := by
  have t1 : decide (c ≤ a) = false := decide_eq_false (by omega)
  have t2 : decide (d ≤ b) = false := decide_eq_false (by omega)
  go_enter Try.func42, Try.ntmps42
  go_wp2
  go_ret
  exact ⟨by first | rfl | exact ret_bool (by simp; omega), (Grows.rfl' _).alloc' _⟩

set_option maxHeartbeats 1000000 in
theorem emp_yes (a b c d : Int) (w : World) (h : ¬ (a < c ∧ b < d)) : Calls Try.prog 42 #[box4 a b c d] w fun e w' => e = .returned (.bool true) ∧ Grows w w' := by
  have h' : c ≤ a ∨ (a < c ∧ d ≤ b) := by omega
  clear h
  rcases h' with h1 | ⟨h1, h2⟩
  all_goals
    (try first | (have t1 : decide (c ≤ a) = true := decide_eq_true (by omega)) | (have t1 : decide (c ≤ a) = false := decide_eq_false (by omega)))
    (try first | (have t2 : decide (d ≤ b) = true := decide_eq_true (by omega)) | (have t2 : decide (d ≤ b) = false := decide_eq_false (by omega)))
    go_enter Try.func42, Try.ntmps42
    go_wp2
    go_ret
    exact ⟨by first | rfl | exact ret_bool (by simp; omega), (Grows.rfl' _).alloc' _⟩

/-! ### The points that are in both -/
/-- There is a point in both. -/
def Meet (a b c d a' b' c' d' : Int) : Prop := max a a' < min c c' ∧ max b b' < min d d'
instance (a b c d a' b' c' d' : Int) : Decidable (Meet a b c d a' b' c' d') := by unfold Meet; exact inferInstance
/-- The rectangle of the points in both; 0 if there is none. -/
def both (a b c d a' b' c' d' : Int) : Value := if Meet a b c d a' b' c' d' then box4 (max a a') (max b b') (min c c') (min d d') else box4 0 0 0 0

theorem both_yes {a b c d a' b' c' d' : Int} (h : Meet a b c d a' b' c' d') : both a b c d a' b' c' d' = box4 (max a a') (max b b') (min c c') (min d d') := if_pos h
theorem both_no {a b c d a' b' c' d' : Int} (h : ¬ Meet a b c d a' b' c' d') : both a b c d a' b' c' d' = box4 0 0 0 0 := if_neg h

set_option maxHeartbeats 2000000 in
theorem common_any (a b c d a' b' c' d' : Int) (w : World) : Calls Try.prog 20 #[box4 a b c d, box4 a' b' c' d'] w fun e w' => e = .returned (.tuple #[both a b c d a' b' c' d', .bool (decide (Meet a b c d a' b' c' d'))]) ∧ Grows w w' := by
  go_enter Try.func20, Try.ntmps20
  go_upto_region 1 with fail
  go_cut [6] from 7 (fun o wr => o = .pointer (some ⟨w.heap.size + 1 + 1 + 1, 0, none⟩) ∧ Tri w wr (w.heap.size + 1) (w.heap.size + 1 + 1) (w.heap.size + 1 + 1 + 1) 25 a' b' c' d' a b c d)
  case first =>
    go_wp2_with fail
    go_meet
    case rel =>
      refine ⟨rfl, ?_, ?_, ?_, ((((Grows.rfl' w).alloc' _).alloc' _).alloc' _).alloc' _⟩
      · unfold Blk4
        rw [heap_alloc_old _ _ (by first | (simp; done) | (simp; omega)), heap_alloc_old _ _ (by simp), heap_top (by simp)]
      · unfold Blk4
        rw [heap_alloc_old _ _ (by simp), heap_top (by simp)]
      · unfold Blk4
        rw [heap_top (by simp)]
  case rest =>
  obtain ⟨rfl, hcut⟩ := hcut
  have HT := Lib.hid hcut
  clear hcut
  obtain ⟨k1a, k1b, k1c, k1d⟩ := HT.out.1.cells
  obtain ⟨k3a, k3b, k3c, k3d⟩ := HT.out.2.2.1.cells
  have k3f := HT.out.2.2.1.frozen
  generalize wc = w1 at *
  go_upto_if 12 with fail
  go_cut [] from 7 (fun wr => Tri w wr (w.heap.size + 1) (w.heap.size + 1 + 1) (w.heap.size + 1 + 1 + 1) 25 a' b' c' d' (max a a') b c d)
  case first =>
    have HP := Lib.hid (HT.out.put0 (by omega) (by omega) (by omega) a')
    go_wp2_with fail
    all_goals go_meet
    all_goals first | (refine of_eq_arg0 (show (max a a') = a' by omega) HP.out) | (refine of_eq_arg0 (show (max a a') = a by omega) HT.out)
  case rest =>
  clear HT k1a k1b k1c k1d k3a k3b k3c k3d k3f
  have HT := Lib.hid hcut
  clear hcut
  obtain ⟨k1a, k1b, k1c, k1d⟩ := HT.out.1.cells
  obtain ⟨k3a, k3b, k3c, k3d⟩ := HT.out.2.2.1.cells
  have k3f := HT.out.2.2.1.frozen
  generalize wc = w2 at *
  go_upto_if 20 with fail
  go_cut [] from 7 (fun wr => Tri w wr (w.heap.size + 1) (w.heap.size + 1 + 1) (w.heap.size + 1 + 1 + 1) 25 a' b' c' d' (max a a') (max b b') c d)
  case first =>
    have HP := Lib.hid (HT.out.put1 (by omega) (by omega) (by omega) b')
    go_wp2_with fail
    all_goals go_meet
    all_goals first | (refine of_eq_arg1 (show (max b b') = b' by omega) HP.out) | (refine of_eq_arg1 (show (max b b') = b by omega) HT.out)
  case rest =>
  clear HT k1a k1b k1c k1d k3a k3b k3c k3d k3f
  have HT := Lib.hid hcut
  clear hcut
  obtain ⟨k1a, k1b, k1c, k1d⟩ := HT.out.1.cells
  obtain ⟨k3a, k3b, k3c, k3d⟩ := HT.out.2.2.1.cells
  have k3f := HT.out.2.2.1.frozen
  generalize wc = w3 at *
  go_upto_if 28 with fail
  go_cut [] from 7 (fun wr => Tri w wr (w.heap.size + 1) (w.heap.size + 1 + 1) (w.heap.size + 1 + 1 + 1) 25 a' b' c' d' (max a a') (max b b') (min c c') d)
  case first =>
    have HP := Lib.hid (HT.out.put2 (by omega) (by omega) (by omega) c')
    go_wp2_with fail
    all_goals go_meet
    all_goals first | (refine of_eq_arg2 (show (min c c') = c' by omega) HP.out) | (refine of_eq_arg2 (show (min c c') = c by omega) HT.out)
  case rest =>
  clear HT k1a k1b k1c k1d k3a k3b k3c k3d k3f
  have HT := Lib.hid hcut
  clear hcut
  obtain ⟨k1a, k1b, k1c, k1d⟩ := HT.out.1.cells
  obtain ⟨k3a, k3b, k3c, k3d⟩ := HT.out.2.2.1.cells
  have k3f := HT.out.2.2.1.frozen
  generalize wc = w4 at *
  go_upto_if 36 with fail
  go_cut [] from 7 (fun wr => Tri w wr (w.heap.size + 1) (w.heap.size + 1 + 1) (w.heap.size + 1 + 1 + 1) 25 a' b' c' d' (max a a') (max b b') (min c c') (min d d'))
  case first =>
    have HP := Lib.hid (HT.out.put3 (by omega) (by omega) (by omega) d')
    go_wp2_with fail
    all_goals go_meet
    all_goals first | (refine of_eq_arg3 (show (min d d') = d' by omega) HP.out) | (refine of_eq_arg3 (show (min d d') = d by omega) HT.out)
  case rest =>
  clear HT k1a k1b k1c k1d k3a k3b k3c k3d k3f
  have HT := Lib.hid hcut
  clear hcut
  obtain ⟨k1a, k1b, k1c, k1d⟩ := HT.out.1.cells
  obtain ⟨k3a, k3b, k3c, k3d⟩ := HT.out.2.2.1.cells
  have k3f := HT.out.2.2.1.frozen
  generalize wc = w5 at *
  obtain ⟨k2a, k2b, k2c, k2d⟩ := HT.out.2.1.cells
  have k2f := HT.out.2.1.frozen
  have HG := Lib.hid HT.out.2.2.2
  clear HT k1a k1b k1c k1d
  by_cases hm : Meet a b c d a' b' c' d'
  · have HB := Lib.hid (both_yes hm)
    have HD : Hid (decide (Meet a b c d a' b' c' d') = true) := decide_eq_true hm
    obtain ⟨hm1, hm2⟩ := hm
    generalize max a a' = A at *
    generalize max b b' = B at *
    generalize min c c' = C at *
    generalize min d d' = D at *
    have t1 : decide (C ≤ A) = false := decide_eq_false (by omega)
    have t2 : decide (D ≤ B) = false := decide_eq_false (by omega)
    go_wp2_with fail
    refine bodyPost_ret (v := .tuple #[box4 A B C D, .bool true]) (by simp [results, Try.results20, go_sem, k2a, k2b, k2c, k2d]) rfl ⟨by rw [HB.out, HD.out], ?_⟩
    iterate 4 refine Grows.set' ?_ (by dsimp only; omega) _
    exact HG.out
  · have HB := Lib.hid (both_no hm)
    have HD : Hid (decide (Meet a b c d a' b' c' d') = false) := decide_eq_false hm
    have hm' : min c c' ≤ max a a' ∨ (max a a' < min c c' ∧ min d d' ≤ max b b') := by unfold Meet at hm; omega
    clear hm
    generalize max a a' = A at *
    generalize max b b' = B at *
    generalize min c c' = C at *
    generalize min d d' = D at *
    rcases hm' with h1 | ⟨h1, h2⟩
    all_goals
      (try first | (have t1 : decide (C ≤ A) = true := decide_eq_true (by omega)) | (have t1 : decide (C ≤ A) = false := decide_eq_false (by omega)))
      (try first | (have t2 : decide (D ≤ B) = true := decide_eq_true (by omega)) | (have t2 : decide (D ≤ B) = false := decide_eq_false (by omega)))
      go_wp2_with fail
      refine bodyPost_ret (v := .tuple #[box4 0 0 0 0, .bool false]) (by simp [results, Try.results20, go_sem, k2a, k2b, k2c, k2d]) rfl ⟨by rw [HB.out, HD.out], ?_⟩
      iterate 4 refine Grows.set' ?_ (by dsimp only; omega) _
      exact HG.out

theorem common_yes (a b c d a' b' c' d' : Int) (w : World) (h : Meet a b c d a' b' c' d') : Calls Try.prog 20 #[box4 a b c d, box4 a' b' c' d'] w fun e w' => e = .returned (.tuple #[box4 (max a a') (max b b') (min c c') (min d d'), .bool true]) ∧ Grows w w' :=
  (common_any a b c d a' b' c' d' w).mono fun _ _ ⟨he, hg⟩ => ⟨by rw [he, both_yes h, decide_eq_true h], hg⟩
theorem common_no (a b c d a' b' c' d' : Int) (w : World) (h : ¬ Meet a b c d a' b' c' d') : Calls Try.prog 20 #[box4 a b c d, box4 a' b' c' d'] w fun e w' => e = .returned (.tuple #[box4 0 0 0 0, .bool false]) ∧ Grows w w' :=
  (common_any a b c d a' b' c' d' w).mono fun _ _ ⟨he, hg⟩ => ⟨by rw [he, both_no h, decide_eq_false h], hg⟩
theorem Meet.symm {a b c d a' b' c' d' : Int} (h : Meet a b c d a' b' c' d') : Meet a' b' c' d' a b c d := by unfold Meet at *; omega

/-- A box for a rectangle, made since the world W. -/
def RectBox (W : World) (v : Value) (w : World) : Prop := ∃ rb, v = .pointer (some ⟨rb, 0, none⟩) ∧ W.heap.size ≤ rb ∧ ∃ a b c d, Blk4 w rb 25 a b c d
theorem RectBox.keep {W : World} (v : Value) (w w' : World) (hg : Grows w w') (h : RectBox W v w) : RectBox W v w' := by
  obtain ⟨rb, h1, h2, a, b, c, d, h3⟩ := h
  exact ⟨rb, h1, h2, a, b, c, d, h3.grows hg⟩
/-- .. with a rectangle in it. -/
def RectIn (W : World) (a b c d : Int) (v : Value) (w : World) : Prop := ∃ rb, v = .pointer (some ⟨rb, 0, none⟩) ∧ W.heap.size ≤ rb ∧ Blk4 w rb 25 a b c d
theorem RectIn.keep {W : World} {a b c d : Int} (v : Value) (w w' : World) (hg : Grows w w') (h : RectIn W a b c d v w) : RectIn W a b c d v w' := by
  obtain ⟨rb, h1, h2, h3⟩ := h
  exact ⟨rb, h1, h2, h3.grows hg⟩

set_option maxHeartbeats 2000000 in
theorem intersect_any (a b c d a' b' c' d' : Int) (w : World) : Calls Try.prog 45 #[box4 a b c d, box4 a' b' c' d'] w fun e w' => e = .returned (both a b c d a' b' c' d') ∧ Grows w w' := by
  go_enter Try.func45, Try.ntmps45
  go_upto_region 1 with fail
  have HT : Hid (Tri w (((w.alloc (.cells #[.int .i64 a, .int .i64 b, .int .i64 c, .int .i64 d] 56)).alloc (.cells #[.int .i64 a', .int .i64 b', .int .i64 c', .int .i64 d'] 56)).alloc (.cells #[.int .i64 0, .int .i64 0, .int .i64 0, .int .i64 0] 56)) (w.heap.size + 1) (w.heap.size + 1 + 1) (w.heap.size) 56 a' b' c' d' a b c d) := by
    refine ⟨?_, ?_, ?_, (((Grows.rfl' w).alloc' _).alloc' _).alloc' _⟩
    · unfold Blk4
      rw [heap_alloc_old _ _ (by simp)]
      have := heap_alloc_new (w.alloc (.cells #[.int .i64 a, .int .i64 b, .int .i64 c, .int .i64 d] 56)) (.cells #[.int .i64 a', .int .i64 b', .int .i64 c', .int .i64 d'] 56)
      rw [World.size_alloc] at this
      exact this
    · unfold Blk4
      have := heap_alloc_new ((w.alloc (.cells #[.int .i64 a, .int .i64 b, .int .i64 c, .int .i64 d] 56)).alloc (.cells #[.int .i64 a', .int .i64 b', .int .i64 c', .int .i64 d'] 56)) (.cells #[.int .i64 0, .int .i64 0, .int .i64 0, .int .i64 0] 56)
      rw [World.size_alloc, World.size_alloc] at this
      exact this
    · unfold Blk4
      rw [heap_alloc_old _ _ (by first | (simp; done) | (simp; omega)), heap_alloc_old _ _ (by simp)]
      exact heap_alloc_new _ _
  generalize ((w.alloc (.cells #[.int .i64 a, .int .i64 b, .int .i64 c, .int .i64 d] 56)).alloc (.cells #[.int .i64 a', .int .i64 b', .int .i64 c', .int .i64 d'] 56)).alloc (.cells #[.int .i64 0, .int .i64 0, .int .i64 0, .int .i64 0] 56) = w1 at *
  obtain ⟨k1a, k1b, k1c, k1d⟩ := HT.out.1.cells
  obtain ⟨k3a, k3b, k3c, k3d⟩ := HT.out.2.2.1.cells
  have k3f := HT.out.2.2.1.frozen
  go_upto_if 11 with fail
  go_cut [] from 5 (fun wr => Tri w wr (w.heap.size + 1) (w.heap.size + 1 + 1) (w.heap.size) 56 a' b' c' d' (max a a') b c d)
  case first =>
    have HP := Lib.hid (HT.out.put0 (by omega) (by omega) (by omega) a')
    go_wp2_with fail
    all_goals go_meet
    all_goals first | (refine of_eq_arg0 (show (max a a') = a' by omega) HP.out) | (refine of_eq_arg0 (show (max a a') = a by omega) HT.out)
  case rest =>
  clear HT k1a k1b k1c k1d k3a k3b k3c k3d k3f
  have HT := Lib.hid hcut
  clear hcut
  obtain ⟨k1a, k1b, k1c, k1d⟩ := HT.out.1.cells
  obtain ⟨k3a, k3b, k3c, k3d⟩ := HT.out.2.2.1.cells
  have k3f := HT.out.2.2.1.frozen
  generalize wc = w2 at *
  go_upto_if 23 with fail
  go_cut [] from 5 (fun wr => Tri w wr (w.heap.size + 1) (w.heap.size + 1 + 1) (w.heap.size) 56 a' b' c' d' (max a a') (max b b') c d)
  case first =>
    have HP := Lib.hid (HT.out.put1 (by omega) (by omega) (by omega) b')
    go_wp2_with fail
    all_goals go_meet
    all_goals first | (refine of_eq_arg1 (show (max b b') = b' by omega) HP.out) | (refine of_eq_arg1 (show (max b b') = b by omega) HT.out)
  case rest =>
  clear HT k1a k1b k1c k1d k3a k3b k3c k3d k3f
  have HT := Lib.hid hcut
  clear hcut
  obtain ⟨k1a, k1b, k1c, k1d⟩ := HT.out.1.cells
  obtain ⟨k3a, k3b, k3c, k3d⟩ := HT.out.2.2.1.cells
  have k3f := HT.out.2.2.1.frozen
  generalize wc = w3 at *
  go_upto_if 35 with fail
  go_cut [] from 5 (fun wr => Tri w wr (w.heap.size + 1) (w.heap.size + 1 + 1) (w.heap.size) 56 a' b' c' d' (max a a') (max b b') (min c c') d)
  case first =>
    have HP := Lib.hid (HT.out.put2 (by omega) (by omega) (by omega) c')
    go_wp2_with fail
    all_goals go_meet
    all_goals first | (refine of_eq_arg2 (show (min c c') = c' by omega) HP.out) | (refine of_eq_arg2 (show (min c c') = c by omega) HT.out)
  case rest =>
  clear HT k1a k1b k1c k1d k3a k3b k3c k3d k3f
  have HT := Lib.hid hcut
  clear hcut
  obtain ⟨k1a, k1b, k1c, k1d⟩ := HT.out.1.cells
  obtain ⟨k3a, k3b, k3c, k3d⟩ := HT.out.2.2.1.cells
  have k3f := HT.out.2.2.1.frozen
  generalize wc = w4 at *
  go_upto_if 47 with fail
  go_cut [] from 5 (fun wr => Tri w wr (w.heap.size + 1) (w.heap.size + 1 + 1) (w.heap.size) 56 a' b' c' d' (max a a') (max b b') (min c c') (min d d'))
  case first =>
    have HP := Lib.hid (HT.out.put3 (by omega) (by omega) (by omega) d')
    go_wp2_with fail
    all_goals go_meet
    all_goals first | (refine of_eq_arg3 (show (min d d') = d' by omega) HP.out) | (refine of_eq_arg3 (show (min d d') = d by omega) HT.out)
  case rest =>
  clear HT k1a k1b k1c k1d k3a k3b k3c k3d k3f
  have HT := Lib.hid hcut
  clear hcut
  obtain ⟨k1a, k1b, k1c, k1d⟩ := HT.out.1.cells
  obtain ⟨k3a, k3b, k3c, k3d⟩ := HT.out.2.2.1.cells
  have k3f := HT.out.2.2.1.frozen
  generalize wc = w5 at *
  obtain ⟨k2a, k2b, k2c, k2d⟩ := HT.out.2.1.cells
  have k2f := HT.out.2.1.frozen
  have HK := Lib.hid HT.out
  clear HT k1a k1b k1c k1d
  by_cases hm : Meet a b c d a' b' c' d'
  · have HB := Lib.hid (both_yes hm)
    obtain ⟨hm1, hm2⟩ := hm
    generalize max a a' = A at *
    generalize max b b' = B at *
    generalize min c c' = C at *
    generalize min d d' = D at *
    go_wp2_with fail
    refine (emp_no _ _ _ _ _ hm1 hm2).mono ?_
    rintro e w6 ⟨rfl, hg6⟩
    clear k2a k2b k2c k2d k2f k3a k3b k3c k3d k3f
    obtain ⟨k2a, k2b, k2c, k2d⟩ := (HK.out.2.1.grows hg6).cells
    have k2f := (HK.out.2.1.grows hg6).frozen
    obtain ⟨k3a, k3b, k3c, k3d⟩ := (HK.out.2.2.1.grows hg6).cells
    have HG := Lib.hid (HK.out.2.2.2.step hg6)
    clear hg6 HK
    go_wp2_with fail
    refine bodyPost_ret (v := box4 A B C D) (by simp [results, Try.results45, go_sem, k2a, k2b, k2c, k2d]) rfl ⟨by rw [HB.out], ?_⟩
    iterate 4 refine Grows.set' ?_ (by dsimp only; omega) _
    exact HG.out
  · have HB := Lib.hid (both_no hm)
    have HM := Lib.hid hm
    clear hm
    go_wp2_with fail
    refine (emp_yes _ _ _ _ _ HM.out).mono ?_
    rintro e w6 ⟨rfl, hg6⟩
    clear k2a k2b k2c k2d k2f k3a k3b k3c k3d k3f
    obtain ⟨k2a, k2b, k2c, k2d⟩ := (HK.out.2.1.grows hg6).cells
    have k2f := (HK.out.2.1.grows hg6).frozen
    have HG := Lib.hid (HK.out.2.2.2.step hg6)
    clear hg6 HK
    go_wp2_with fail
    refine bodyPost_ret (v := box4 0 0 0 0) (by simp [results, Try.results45, go_sem, k2a, k2b, k2c, k2d]) rfl ⟨by rw [HB.out], ?_⟩
    iterate 4 refine Grows.set' ?_ (by dsimp only; omega) _
    exact HG.out

theorem assert_img (p : Addr) (w : World) : (Instr.typeAssert (.iface 46 (.pointer (some p))) 67 46 false).run Try.prog w = .ok (.pointer (some p)) w := by kernel_rfl

set_option maxHeartbeats 2000000 in
theorem sub_yes (ib pb o len i : Nat) (st a b c d a' b' c' d' : Int) (w : World) (hI : ImgAt w ib (.slice (some ⟨pb, o, none⟩) len len) st a b c d) (hm : Meet a' b' c' d' a b c d) (hx : c - a ≤ 1000) (hy : d - b ≤ 1000) (h5 : 0 ≤ st) (h6 : st ≤ 4000)
    (hi : (max b' b - b) * st + (max a' a - a) * 1 = (i : Int)) (hl : i < len) (hlm : len ≤ 17592186044416) :
    Calls Try.prog 33 #[.pointer (some ⟨ib, 0, none⟩), box4 a' b' c' d'] w fun e w' => ∃ ib', e = .returned (.iface 46 (.pointer (some ⟨ib', 0, none⟩))) ∧ w.heap.size ≤ ib' ∧ ImgAt w' ib' (.slice (some ⟨pb, o + i, none⟩) (len - i) (len - i)) st (max a' a) (max b' b) (min c' c) (min d' d) ∧ Grows w w' := by
  have HI := Lib.hid hI
  have HM := Lib.hid hm
  have HE := Lib.hid hi
  have hlt : ib < w.heap.size := hI.lt
  obtain ⟨hm1, hm2⟩ := hm
  have HB := Lib.hid (both_yes HM.out)
  have b1 : 0 ≤ max b' b - b := by omega
  have b2 : max b' b - b ≤ 1000 := by omega
  have b3 : 0 ≤ max a' a - a := by omega
  have b4 : max a' a - a ≤ 1000 := by omega
  clear hI hi HM
  go_enter Try.func33, Try.ntmps33
  go_wp2_with fail
  apply wp_region_lex_lit 6 (by kernel_rfl) (by kernel_rfl)
  iterate 5
    apply lex_pin
    · intro wq hgq hdq Kq hKq
      obtain ⟨q0, q1, q2, q3, q4, q5⟩ := (HI.out.grows (((Grows.rfl' _).alloc' _).drew'.step hgq)).cells
      obtain ⟨hcq, _⟩ := hgq.cells
      go_wp2
      exact hKq _ (Grows.rfl' _)
    · kernel_rfl
  apply lex_pin
  · intro wq hgq hdq Kq hKq
    go_wp2_with fail
    refine (intersect_any _ _ _ _ _ _ _ _ _).mono ?_
    rintro e wq' ⟨rfl, hgq'⟩
    rw [HB.out]
    go_wp2_with fail
    exact hKq _ hgq'
  · kernel_rfl
  refine lex_end ?_
  intro w3 hg3 _
  have hlt3 : w.heap.size < w3.heap.size := by have := hg3.size; simp at this; omega
  have KB : Hid (Blk4 w3 w.heap.size 56 a' b' c' d') := Blk4.grows (heap_top rfl) ((Grows.rfl' _).drew'.step hg3)
  have HI3 := Lib.hid (HI.out.grows (((Grows.rfl' _).alloc' _).drew'.step hg3))
  have HG3 : Hid (Grows w w3) := ((Grows.rfl' w).alloc' _).drew'.step hg3
  obtain ⟨k0, k1, k2, k3⟩ := KB.out.cells
  have kf := KB.out.frozen
  generalize hA : max a' a = A at *
  generalize hB : max b' b = B at *
  generalize hC : min c' c = C at *
  generalize hD : min d' d = D at *
  have HA := Lib.hid hA
  have HBB := Lib.hid hB
  have HC := Lib.hid hC
  have HD := Lib.hid hD
  clear hA hB hC hD
  have KS := Lib.hid ((((KB.out.set0 A).set1 B).set2 C).set3 D)
  have HGS : Hid (Grows w ((((w3.setCell ⟨w.heap.size, 0, none⟩ (.int .i64 A)).setCell ⟨w.heap.size, 1, none⟩ (.int .i64 B)).setCell ⟨w.heap.size, 2, none⟩ (.int .i64 C)).setCell ⟨w.heap.size, 3, none⟩ (.int .i64 D))) := (((HG3.out.set' (by simp) _).set' (by simp) _).set' (by simp) _).set' (by simp) _
  clear hg3
  go_upto_region 2 with fail
  generalize (((w3.setCell ⟨w.heap.size, 0, none⟩ (.int .i64 A)).setCell ⟨w.heap.size, 1, none⟩ (.int .i64 B)).setCell ⟨w.heap.size, 2, none⟩ (.int .i64 C)).setCell ⟨w.heap.size, 3, none⟩ (.int .i64 D) = w4 at *
  clear HI3 HG3 KB k0 k1 k2 k3 kf hlt3
  obtain ⟨k0, k1, k2, k3⟩ := KS.out.cells
  go_wp2_with fail
  refine (emp_no _ _ _ _ _ hm1 hm2).mono ?_
  rintro e w5 ⟨rfl, hg5⟩
  replace KS := Lib.hid (KS.out.grows hg5)
  replace HGS := Lib.hid (HGS.out.step hg5)
  clear k0 k1 k2 k3 hg5
  obtain ⟨k0, k1, k2, k3⟩ := KS.out.cells
  go_wp2_with fail
  refine (pixOffset_in ib i _ st a b c d A B _ (HI.out.grows HGS.out) b1 b2 b3 b4 h5 h6 HE.out).mono ?_
  rintro e w6 ⟨rfl, hg6⟩
  replace KS := Lib.hid (KS.out.grows hg6)
  replace HGS := Lib.hid (HGS.out.step hg6)
  clear k0 k1 k2 k3 hg6
  have l1 : (i : Int) ≤ (len : Int) := by omega
  have l2 : ¬ len = i := by omega
  go_wp2_with fail
  apply wp_region_lex_lit 12 (by kernel_rfl) (by kernel_rfl)
  iterate 12
    apply lex_pin
    · intro wq hgq hdq Kq hKq
      obtain ⟨q0, q1, q2, q3, q4, q5⟩ := (HI.out.grows (HGS.out.drew'.step hgq)).cells
      obtain ⟨k0, k1, k2, k3⟩ := (KS.out.grows ((Grows.rfl' _).drew'.step hgq)).cells
      go_wp2
      exact hKq _ (Grows.rfl' _)
    · kernel_rfl
  refine lex_end ?_
  intro w7 hg7 _
  have HG7 := Lib.hid (HGS.out.drew'.step hg7)
  clear hg7
  go_wp2_with fail
  go_ret
  exact ⟨w7.heap.size, rfl, HG7.out.size, by rw [HA.out, HBB.out, HC.out, HD.out]; exact heap_alloc_new _ _, HG7.out.alloc' _⟩

set_option maxHeartbeats 2000000 in
theorem sub_no (ib : Nat) (pv : Value) (st a b c d a' b' c' d' : Int) (w : World) (hI : ImgAt w ib pv st a b c d) (hm : ¬ Meet a' b' c' d' a b c d) :
    Calls Try.prog 33 #[.pointer (some ⟨ib, 0, none⟩), box4 a' b' c' d'] w fun e w' => ∃ ib', e = .returned (.iface 46 (.pointer (some ⟨ib', 0, none⟩))) ∧ w.heap.size ≤ ib' ∧ ImgAt w' ib' (.slice none 0 0) 0 0 0 0 0 ∧ Grows w w' := by
  have HI := Lib.hid hI
  have hlt : ib < w.heap.size := hI.lt
  have HB := Lib.hid (both_no hm)
  clear hI hm
  go_enter Try.func33, Try.ntmps33
  go_wp2_with fail
  apply wp_region_lex_lit 6 (by kernel_rfl) (by kernel_rfl)
  iterate 5
    apply lex_pin
    · intro wq hgq hdq Kq hKq
      obtain ⟨q0, q1, q2, q3, q4, q5⟩ := (HI.out.grows (((Grows.rfl' _).alloc' _).drew'.step hgq)).cells
      obtain ⟨hcq, _⟩ := hgq.cells
      go_wp2
      exact hKq _ (Grows.rfl' _)
    · kernel_rfl
  apply lex_pin
  · intro wq hgq hdq Kq hKq
    go_wp2_with fail
    refine (intersect_any _ _ _ _ _ _ _ _ _).mono ?_
    rintro e wq' ⟨rfl, hgq'⟩
    rw [HB.out]
    go_wp2_with fail
    exact hKq _ hgq'
  · kernel_rfl
  refine lex_end ?_
  intro w3 hg3 _
  have KB : Hid (Blk4 w3 w.heap.size 56 a' b' c' d') := Blk4.grows (heap_top rfl) ((Grows.rfl' _).drew'.step hg3)
  have HG3 : Hid (Grows w w3) := ((Grows.rfl' w).alloc' _).drew'.step hg3
  obtain ⟨k0, k1, k2, k3⟩ := KB.out.cells
  have kf := KB.out.frozen
  have KS := Lib.hid ((((KB.out.set0 0).set1 0).set2 0).set3 0)
  have HGS : Hid (Grows w ((((w3.setCell ⟨w.heap.size, 0, none⟩ (.int .i64 0)).setCell ⟨w.heap.size, 1, none⟩ (.int .i64 0)).setCell ⟨w.heap.size, 2, none⟩ (.int .i64 0)).setCell ⟨w.heap.size, 3, none⟩ (.int .i64 0))) := (((HG3.out.set' (by simp) _).set' (by simp) _).set' (by simp) _).set' (by simp) _
  clear hg3
  go_upto_region 2 with fail
  generalize (((w3.setCell ⟨w.heap.size, 0, none⟩ (.int .i64 0)).setCell ⟨w.heap.size, 1, none⟩ (.int .i64 0)).setCell ⟨w.heap.size, 2, none⟩ (.int .i64 0)).setCell ⟨w.heap.size, 3, none⟩ (.int .i64 0) = w4 at *
  clear HG3 KB k0 k1 k2 k3 kf
  obtain ⟨k0, k1, k2, k3⟩ := KS.out.cells
  go_wp2_with fail
  refine (emp_yes _ _ _ _ _ (by omega)).mono ?_
  rintro e w5 ⟨rfl, hg5⟩
  have HG5 := Lib.hid (HGS.out.step hg5)
  clear hg5
  go_wp2_with fail
  go_ret
  exact ⟨w5.heap.size, rfl, HG5.out.size, heap_alloc_new _ _, HG5.out.alloc' _⟩

/-- Bytes from a place on. -/
theorem bytes_from {n i : Nat} {f : Nat → Int} {w : World} {pb : Nat} (hP : Px w pb n f) (hi : i ≤ n) (hn : n ≤ 17592186044416) (hf : ∀ j, 0 ≤ f j ∧ f j ≤ 255) : RdB w (.slice (some ⟨pb, 0 + i, none⟩) (n - i) (n - i)) (bytesOf (n - i) fun j => f (i + j)) := by
  have h := hP.rd (o := 0 + i) (bytesOf (n - i) fun j => f (i + j)) (n - i) (by rw [bytesOf_length]; omega) (by omega) (by rw [bytesOf_length]; omega) (bytesOf_in fun j _ => hf _) (by rw [bytesOf_length]; omega) (fun j m hj => by
    have := (bytesOf_get hj).2
    rw [Nat.zero_add]
    exact this)
  rw [bytesOf_length] at h
  exact h

set_option maxHeartbeats 2000000 in
theorem implSub_end (a b c d a' b' c' d' st A B C D : Int) (v pv : Value) (zs L : List Int) (w : World) (hf : Fine a b c d) (h : RdI w v zs)
    (hsub : ∀ (w1 : World) (ib pb : Nat), ImgAt w1 ib (.slice (some ⟨pb, 0, none⟩) (total a b c d 1) (total a b c d 1)) (sd a c 1) a b c d → Px w1 pb (total a b c d 1) (byteAt zs) →
      Calls Try.prog 33 #[.pointer (some ⟨ib, 0, none⟩), box4 a' b' c' d'] w1 fun e w' => ∃ ib' A0 n0 m0, e = .returned (.iface 46 (.pointer (some ⟨ib', 0, none⟩))) ∧ ImgAt w' ib' (.slice A0 n0 m0) st A B C D ∧ RdB w' (.slice A0 n0 m0) L ∧ Grows w1 w') :
    Calls Try.prog 21 #[box4 a b c d, v, box4 a' b' c' d'] w (NewPic A B C D st L w) := by
  have HR := Lib.hid h
  have HF := Lib.hid hf
  have HS := Lib.hid hsub
  have has := assert_img
  obtain ⟨A1, cc, rfl, _⟩ := h
  clear hf hsub
  go_enter Try.func21, Try.ntmps21
  go_wp2_with fail
  refine (mk_any _ _ _ _ _ zs _ HF.out (HR.out.grows ((((Grows.rfl' w).alloc' _).alloc' _).alloc' _))).mono ?_
  rintro e w1 ⟨ib, pb, rfl, hib, hpb, him, hpx, hg1⟩
  have HSC := Lib.hid (fun W (hW : Grows w1 W) => HS.out W ib pb (him.grows hW) (hpx.grows hW))
  have HGB := Lib.hid hg1
  have hgt := ((Grows.rfl' _).alloc' _).step hg1
  have c0 : w1.cell? ⟨w.heap.size + 1, 0, none⟩ = some (.int .i64 a') := hgt.cell_some (cell_top (by simp) rfl)
  have c1 : w1.cell? ⟨w.heap.size + 1, 1, none⟩ = some (.int .i64 b') := hgt.cell_some (cell_top (by simp) rfl)
  have c2 : w1.cell? ⟨w.heap.size + 1, 2, none⟩ = some (.int .i64 c') := hgt.cell_some (cell_top (by simp) rfl)
  have c3 : w1.cell? ⟨w.heap.size + 1, 3, none⟩ = some (.int .i64 d') := hgt.cell_some (cell_top (by simp) rfl)
  clear him hpx hg1 HR HS hgt
  go_wp2_with fail
  refine (rectangle_any _ _ _ _ _).mono ?_
  rintro e w2 ⟨rfl, hg2⟩
  replace HSC := Lib.hid (HSC.out _ hg2)
  replace HGB := Lib.hid (HGB.out.step hg2)
  clear c0 c1 c2 c3 hg2
  go_wp2_with fail
  refine HSC.out.mono ?_
  rintro e w3 ⟨ib', A0, n0, m0, rfl, him', hrd, hg3⟩
  replace HGB := Lib.hid (HGB.out.step hg3)
  have HI := Lib.hid him'
  have HRD := Lib.hid hrd
  have hsz : w.heap.size + 2 < w3.heap.size := by have := HGB.out.size; simp at this; omega
  clear him' hrd hg3 HSC HF
  go_wp2_with fail
  apply wp_region_lex_lit 13 (by kernel_rfl) (by kernel_rfl)
  iterate 12
    apply lex_pin
    · intro wq hgq hdq Kq hKq
      obtain ⟨q0, q1, q2, q3, q4, q5⟩ := (HI.out.grows ((Grows.rfl' _).drew'.step hgq)).cells
      go_wp2
      exact hKq _ (Grows.rfl' _)
    · kernel_rfl
  apply lex_any (fun v wx => ∃ v', v = .agg #[.int .i64 A, .int .i64 B, .int .i64 C, .int .i64 D, .int .i64 st, v'] ∧ OwnI w3 wx v' L) ((fun v x y hg ⟨v', h1, h2⟩ => ⟨v', h1, h2.later hg⟩))
  · intro wq hgq hdq Kq hKq
    go_wp2_with fail
    refine (picture_any _ _ _ _ _ _ _ _ (HRD.out.grows ((Grows.rfl' _).drew'.step hgq))).mono ?_
    rintro e wq' ⟨v', rfl, ho⟩
    go_wp2_with fail
    exact hKq _ _ ho.2 ⟨v', rfl, ho.base ((Grows.rfl' _).drew'.step hgq)⟩
  intro v19
  simp only [Act.put, List.setIfInBounds_toArray, List.set_cons_succ, List.set_cons_zero]
  refine lex_end ?_
  intro w4 hg4 hd4
  obtain ⟨v', rfl, ho⟩ := hd4 12 _ rfl
  clear hd4
  obtain ⟨A2, c2, rfl⟩ := ho.form
  have HX := Lib.hid (OwnX.start ho ((((Grows.rfl' w).alloc' _).alloc' _).alloc' _ |>.step HGB.out))
  have hg5 := HGB.out.drew'.step hg4
  obtain ⟨hcq, hfq⟩ := hg5.cells
  clear hg4 ho hg5 HI HRD HGB
  go_wp2_with fail
  refine bodyPost_ret (v := .agg #[.int .i64 A, .int .i64 B, .int .i64 C, .int .i64 D, .int .i64 st, .slice A2 L.length c2]) (by simp [results, Try.results21, go_sem, hcq]) rfl ⟨_, rfl, ?_⟩
  refine OwnX.own (B := w3.heap.size) ?_ (by omega)
  iterate 6 refine OwnX.set ?_ (by omega) hsz _
  exact HX.out

theorem implSub_no (a b c d a' b' c' d' : Int) (v : Value) (zs : List Int) (w : World) (hf : Fine a b c d) (h : RdI w v zs) (hm : ¬ Meet a' b' c' d' a b c d) : Calls Try.prog 21 #[box4 a b c d, v, box4 a' b' c' d'] w (NewPic 0 0 0 0 0 [] w) := by
  refine implSub_end a b c d a' b' c' d' 0 0 0 0 0 v v zs [] w hf h fun w1 ib pb hI hP => ?_
  refine (sub_no ib _ _ a b c d a' b' c' d' w1 hI hm).mono ?_
  rintro e w' ⟨ib', rfl, h1, h2, h3⟩
  exact ⟨ib', none, 0, 0, rfl, h2, Rd.nil, h3⟩

theorem implSub_yes (a b c d a' b' c' d' : Int) (v : Value) (zs : List Int) (i : Nat) (w : World) (hf : Fine a b c d) (h : RdI w v zs) (hm : Meet a' b' c' d' a b c d) (hi : (max b' b - b) * sd a c 1 + (max a' a - a) * 1 = (i : Int)) (hl : i < total a b c d 1) :
    Calls Try.prog 21 #[box4 a b c d, v, box4 a' b' c' d'] w (NewPic (max a' a) (max b' b) (min c' c) (min d' d) (sd a c 1) (bytesOf (total a b c d 1 - i) fun j => byteAt zs (i + j)) w) := by
  have htl := total_le (k := 1) (by omega) hf
  have hsd := sd_in (k := 1) (by omega) hf
  refine implSub_end a b c d a' b' c' d' _ _ _ _ _ v v zs _ w hf h fun w1 ib pb hI hP => ?_
  obtain ⟨_, _, ⟨f5, f6⟩, ⟨f7, f8⟩⟩ := hf
  refine (sub_yes ib pb 0 _ i _ a b c d a' b' c' d' w1 hI hm (by omega) (by omega) hsd.1 hsd.2 hi hl (by omega)).mono ?_
  rintro e w' ⟨ib', rfl, h1, h2, h3⟩
  exact ⟨ib', _, _, _, rfl, h2, bytes_from (hP.grows h3) (by omega) (by omega) (byteAt_in zs), h3⟩
end Go.Proofs.Ytcgdafcjipfccaa

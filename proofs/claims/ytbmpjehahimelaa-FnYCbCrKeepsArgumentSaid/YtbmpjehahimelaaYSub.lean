/-
  Contracts of image.YCbCr's SubImage at an image in memory and of the thin package's YCbCrSub. Conditions stand in each theorem.
-/
import Derived.Test.YtbmpjehahimelaaYSpec
import Derived.Test.YtbmpjehahimelaaInter
namespace Go.Proofs.Ytbmpjehahimelaa
open Go.RowKit
set_option linter.unusedVariables false

theorem assert_imgY (p : Addr) (w : World) : (Instr.typeAssert (.iface 45 (.pointer (some p))) 49 45 false).run Try.prog w = .ok (.pointer (some p)) w := by kernel_rfl

set_option maxRecDepth 20000 in
set_option maxHeartbeats 2000000 in
theorem subY_no (ib : Nat) (vy vb vr : Value) (ys cs r a b c d a' b' c' d' : Int) (w : World) (hI : ImgY w ib vy vb vr ys cs r a b c d) (hm : ¬ Meet a' b' c' d' a b c d) :
    Calls Try.prog 20 #[.pointer (some ⟨ib, 0, none⟩), box4 a' b' c' d'] w fun e w' => ∃ ib', e = .returned (.iface 45 (.pointer (some ⟨ib', 0, none⟩))) ∧ w.heap.size ≤ ib' ∧ ImgY w' ib' (.slice none 0 0) (.slice none 0 0) (.slice none 0 0) 0 0 r 0 0 0 0 ∧ Grows w w' := by
  have HI := Lib.hid hI
  have hlt : ib < w.heap.size := hI.lt
  have HB := Lib.hid (both_no hm)
  clear hI hm
  go_enter Try.func20, Try.ntmps20
  go_wp2_with fail
  apply wp_region_lex_lit 6 (by kernel_rfl) (by kernel_rfl)
  iterate 5
    apply lex_pin
    · intro wq hgq hdq Kq hKq
      obtain ⟨q0, q1, q2, q3, q4, q5, q6, q7, q8, q9⟩ := (HI.out.grows (((Grows.rfl' _).alloc' _).drew'.step hgq)).cells
      obtain ⟨hcq, _⟩ := hgq.cells
      go_wp2
      exact hKq _ (Grows.rfl' _)
    · kernel_rfl
  apply lex_pin
  · intro wq hgq hdq Kq hKq
    go_wp2_with fail
    refine (intersect_any _ _ _ _ _ _ _ _ _).mono ?_
    rintro e wq' ⟨rfl, hgq'⟩
    rw [HB.out]
    go_wp2_with fail
    exact hKq _ hgq'
  · kernel_rfl
  refine lex_end ?_
  intro w3 hg3 _
  have KB : Hid (Blk4 w3 w.heap.size 54 a' b' c' d') := Blk4.grows (heap_top rfl) ((Grows.rfl' _).drew'.step hg3)
  have HG3 : Hid (Grows w w3) := ((Grows.rfl' w).alloc' _).drew'.step hg3
  obtain ⟨k0, k1, k2, k3⟩ := KB.out.cells
  have kf := KB.out.frozen
  have KS := Lib.hid ((((KB.out.set0 0).set1 0).set2 0).set3 0)
  have HGS : Hid (Grows w ((((w3.setCell ⟨w.heap.size, 0, none⟩ (.int .i64 0)).setCell ⟨w.heap.size, 1, none⟩ (.int .i64 0)).setCell ⟨w.heap.size, 2, none⟩ (.int .i64 0)).setCell ⟨w.heap.size, 3, none⟩ (.int .i64 0))) := (((HG3.out.set' (by simp) _).set' (by simp) _).set' (by simp) _).set' (by simp) _
  clear hg3
  go_upto_region 2 with fail
  generalize (((w3.setCell ⟨w.heap.size, 0, none⟩ (.int .i64 0)).setCell ⟨w.heap.size, 1, none⟩ (.int .i64 0)).setCell ⟨w.heap.size, 2, none⟩ (.int .i64 0)).setCell ⟨w.heap.size, 3, none⟩ (.int .i64 0) = w4 at *
  clear HG3 KB k0 k1 k2 k3 kf
  obtain ⟨k0, k1, k2, k3⟩ := KS.out.cells
  go_wp2_with fail
  refine (emp_yes _ _ _ _ _ (by omega)).mono ?_
  rintro e w5 ⟨rfl, hg5⟩
  have HG5 := Lib.hid (HGS.out.step hg5)
  obtain ⟨q0, q1, q2, q3, q4, q5, q6, q7, q8, q9⟩ := (HI.out.grows HG5.out).cells
  clear hg5
  go_wp2_with fail
  go_ret
  exact ⟨w5.heap.size, rfl, HG5.out.size, heap_alloc_new _ _, HG5.out.alloc' _⟩

set_option maxRecDepth 20000 in
set_option maxHeartbeats 4000000 in
theorem subY_yes (ib pb oy ob or' ly lb lr i k : Nat) (ys cs r a b c d a' b' c' d' : Int) (w : World) (hI : ImgY w ib (.slice (some ⟨pb, oy, none⟩) ly ly) (.slice (some ⟨pb, ob, none⟩) lb lb) (.slice (some ⟨pb, or', none⟩) lr lr) ys cs r a b c d) (hm : Meet a' b' c' d' a b c d)
    (r0 : 0 ≤ r) (r5 : r ≤ 5) (g0 : 0 ≤ a) (g1 : 0 ≤ b) (hx : c ≤ a + 1000) (hy : d ≤ b + 1000) (g2 : a ≤ 4611686018427387904) (g3 : b ≤ 4611686018427387904) (y0 : 0 ≤ ys) (y1 : ys ≤ 1000) (c0 : 0 ≤ cs) (c1 : cs ≤ 1000)
    (hi : (max b' b - b) * ys + (max a' a - a) = (i : Int)) (hk : (max b' b / vsp r - b / vsp r) * cs + (max a' a / hsp r - a / hsp r) = (k : Int)) (l1 : i < ly) (l2 : k < lb) (l3 : k < lr) (m1 : ly ≤ 9000000) (m2 : lb ≤ 9000000) (m3 : lr ≤ 9000000) :
    Calls Try.prog 20 #[.pointer (some ⟨ib, 0, none⟩), box4 a' b' c' d'] w fun e w' => ∃ ib', e = .returned (.iface 45 (.pointer (some ⟨ib', 0, none⟩))) ∧ w.heap.size ≤ ib' ∧
      ImgY w' ib' (.slice (some ⟨pb, oy + i, none⟩) (ly - i) (ly - i)) (.slice (some ⟨pb, ob + k, none⟩) (lb - k) (lb - k)) (.slice (some ⟨pb, or' + k, none⟩) (lr - k) (lr - k)) ys cs r (max a' a) (max b' b) (min c' c) (min d' d) ∧ Grows w w' := by
  have HI := Lib.hid hI
  have hlt : ib < w.heap.size := hI.lt
  have HB := Lib.hid (both_yes hm)
  obtain ⟨hm1, hm2⟩ := hm
  have HYO : Hid (∀ W, Grows w W → Calls Try.prog 31 #[.pointer (some ⟨ib, 0, none⟩), .int .i64 (max a' a), .int .i64 (max b' b)] W fun e w' => e = .returned (.int .i64 i) ∧ Grows W w') := fun W hW => yOff_in ib i _ _ _ ys cs r a b c d _ _ W (hI.grows hW) (by omega) (by omega) (by omega) (by omega) y0 y1 hi
  have HCO : Hid (∀ W, Grows w W → Calls Try.prog 32 #[.pointer (some ⟨ib, 0, none⟩), .int .i64 (max a' a), .int .i64 (max b' b)] W fun e w' => e = .returned (.int .i64 k) ∧ Grows W w') := fun W hW => cOff_in ib k _ _ _ ys cs r a b c d _ _ W (hI.grows hW) r0 r5 g0 g1 (by omega) (by omega) (by omega) (by omega) c0 c1 g2 g3 hk
  clear hI hi hk
  go_enter Try.func20, Try.ntmps20
  go_wp2_with fail
  apply wp_region_lex_lit 6 (by kernel_rfl) (by kernel_rfl)
  iterate 5
    apply lex_pin
    · intro wq hgq hdq Kq hKq
      obtain ⟨q0, q1, q2, q3, q4, q5, q6, q7, q8, q9⟩ := (HI.out.grows (((Grows.rfl' _).alloc' _).drew'.step hgq)).cells
      obtain ⟨hcq, _⟩ := hgq.cells
      go_wp2
      exact hKq _ (Grows.rfl' _)
    · kernel_rfl
  apply lex_pin
  · intro wq hgq hdq Kq hKq
    go_wp2_with fail
    refine (intersect_any _ _ _ _ _ _ _ _ _).mono ?_
    rintro e wq' ⟨rfl, hgq'⟩
    rw [HB.out]
    go_wp2_with fail
    exact hKq _ hgq'
  · kernel_rfl
  refine lex_end ?_
  intro w3 hg3 _
  have KB : Hid (Blk4 w3 w.heap.size 54 a' b' c' d') := Blk4.grows (heap_top rfl) ((Grows.rfl' _).drew'.step hg3)
  have HG3 : Hid (Grows w w3) := ((Grows.rfl' w).alloc' _).drew'.step hg3
  obtain ⟨k0, k1, k2, k3⟩ := KB.out.cells
  have kf := KB.out.frozen
  generalize hA : max a' a = A at *
  generalize hBB : max b' b = B at *
  generalize hC : min c' c = C at *
  generalize hD : min d' d = D at *
  have HA := Lib.hid hA
  have HBB := Lib.hid hBB
  have HC := Lib.hid hC
  have HD := Lib.hid hD
  clear hA hBB hC hD
  have KS := Lib.hid ((((KB.out.set0 A).set1 B).set2 C).set3 D)
  have HGS : Hid (Grows w ((((w3.setCell ⟨w.heap.size, 0, none⟩ (.int .i64 A)).setCell ⟨w.heap.size, 1, none⟩ (.int .i64 B)).setCell ⟨w.heap.size, 2, none⟩ (.int .i64 C)).setCell ⟨w.heap.size, 3, none⟩ (.int .i64 D))) := (((HG3.out.set' (by simp) _).set' (by simp) _).set' (by simp) _).set' (by simp) _
  clear hg3
  go_upto_region 2 with fail
  generalize (((w3.setCell ⟨w.heap.size, 0, none⟩ (.int .i64 A)).setCell ⟨w.heap.size, 1, none⟩ (.int .i64 B)).setCell ⟨w.heap.size, 2, none⟩ (.int .i64 C)).setCell ⟨w.heap.size, 3, none⟩ (.int .i64 D) = w4 at *
  clear HG3 KB k0 k1 k2 k3 kf
  obtain ⟨k0, k1, k2, k3⟩ := KS.out.cells
  go_wp2_with fail
  refine (emp_no _ _ _ _ _ hm1 hm2).mono ?_
  rintro e w5 ⟨rfl, hg5⟩
  replace KS := Lib.hid (KS.out.grows hg5)
  replace HGS := Lib.hid (HGS.out.step hg5)
  clear k0 k1 k2 k3 hg5
  obtain ⟨k0, k1, k2, k3⟩ := KS.out.cells
  go_wp2_with fail
  refine (HYO.out _ HGS.out).mono ?_
  rintro e w6 ⟨rfl, hg6⟩
  replace KS := Lib.hid (KS.out.grows hg6)
  replace HGS := Lib.hid (HGS.out.step hg6)
  clear k0 k1 k2 k3 hg6
  obtain ⟨k0, k1, k2, k3⟩ := KS.out.cells
  go_wp2_with fail
  refine (HCO.out _ HGS.out).mono ?_
  rintro e w7 ⟨rfl, hg7⟩
  replace KS := Lib.hid (KS.out.grows hg7)
  replace HGS := Lib.hid (HGS.out.step hg7)
  clear k0 k1 k2 k3 hg7
  have j1 : (i : Int) ≤ (ly : Int) := by omega
  have j2 : ¬ ly = i := by omega
  have j3 : (k : Int) ≤ (lb : Int) := by omega
  have j4 : ¬ lb = k := by omega
  have j5 : (k : Int) ≤ (lr : Int) := by omega
  have j6 : ¬ lr = k := by omega
  go_wp2_with fail
  apply wp_region_lex_lit 32 (by kernel_rfl) (by kernel_rfl)
  iterate 32
    apply lex_pin
    · intro wq hgq hdq Kq hKq
      obtain ⟨q0, q1, q2, q3, q4, q5, q6, q7, q8, q9⟩ := (HI.out.grows (HGS.out.drew'.step hgq)).cells
      obtain ⟨k0, k1, k2, k3⟩ := (KS.out.grows ((Grows.rfl' _).drew'.step hgq)).cells
      go_wp2
      exact hKq _ (Grows.rfl' _)
    · kernel_rfl
  refine lex_end ?_
  intro w8 hg8 _
  have HG8 := Lib.hid (HGS.out.drew'.step hg8)
  clear hg8
  go_wp2_with fail
  go_ret
  exact ⟨w8.heap.size, rfl, HG8.out.size, by rw [HA.out, HBB.out, HC.out, HD.out]; exact heap_alloc_new _ _, HG8.out.alloc' _⟩
end Go.Proofs.Ytbmpjehahimelaa

/-
  Contract of the statements' sampleAt at planes that read as lists, at a pixel whose samples are there. Conditions stand in the theorem.
-/
import Derived.Test.YtbmpjehahimelaaYSame
import Derived.Deep.Cut
namespace Go.Proofs.Ytbmpjehahimelaa
open Go.RowKit
set_option linter.unusedVariables false

set_option maxRecDepth 20000 in
set_option maxHeartbeats 4000000 in
theorem sampleAt_in (a b c d ys cs r x y n1 n2 n3 : Int) (i k : Nat) (p1 p2 p3 : Value) (L1 L2 L3 : List Int) (w : World) (h1 : RdI w p1 L1) (h2 : RdI w p2 L2) (h3 : RdI w p3 L3) (r0 : 0 ≤ r) (r5 : r ≤ 5) (g0 : 0 ≤ a) (g1 : 0 ≤ b) (i1 : a ≤ x) (i2 : x ≤ a + 1000) (i3 : b ≤ y) (i4 : y ≤ b + 1000) (g2 : a ≤ 4611686018427387904) (g3 : b ≤ 4611686018427387904) (y0 : 0 ≤ ys) (y1 : ys ≤ 1000) (c0 : 0 ≤ cs) (c1 : cs ≤ 1000)
    (hi : (y - b) * ys + (x - a) = (i : Int)) (hk : (y / vsp r - b / vsp r) * cs + (x / hsp r - a / hsp r) = (k : Int)) (e1 : L1[i]? = some n1) (e2 : L2[k]? = some n2) (e3 : L3[k]? = some n3) :
    Calls Try.prog 11 #[.agg #[.int .i64 a, .int .i64 b, .int .i64 c, .int .i64 d, .int .i64 ys, .int .i64 cs, .int .i64 r, p1, p2, p3], .int .i64 x, .int .i64 y] w fun e w' => e = .returned (.tuple #[.agg #[.int .i64 n1, .int .i64 n2, .int .i64 n3, .int .i64 0], .bool true]) ∧ Grows w w' := by
  have l1 : i < L1.length := (List.getElem?_eq_some_iff.1 e1).1
  have l2 : k < L2.length := (List.getElem?_eq_some_iff.1 e2).1
  have l3 : k < L3.length := (List.getElem?_eq_some_iff.1 e3).1
  obtain ⟨A1, d1, rfl, _, _, m1, _, R1⟩ := h1
  obtain ⟨A2, d2, rfl, _, _, m2, _, R2⟩ := h2
  obtain ⟨A3, d3, rfl, _, _, m3, _, R3⟩ := h3
  obtain ⟨B1, o1, rfl, C1⟩ := R1 i n1 e1
  obtain ⟨B2, o2, rfl, C2⟩ := R2 k n2 e2
  obtain ⟨B3, o3, rfl, C3⟩ := R3 k n3 e3
  have hh := hsp_or r
  have hw : vsp r = 1 ∨ vsp r = 2 ∨ vsp r = (4 : Int) := by rcases vsp_or r with h | h <;> simp [h]
  have HSP : Hid (∀ W, Calls Try.prog 22 #[.int .i64 r] W fun e w' => e = .returned (.tuple #[.int .i64 (hsp r), .int .i64 (vsp r)]) ∧ W = w') := fun W => spans_any r W r0 r5
  obtain ⟨q1, q1a, q1b⟩ := divs (x := x) hh (by omega)
  obtain ⟨q2, q2a, q2b⟩ := divs (x := a) hh (by omega)
  obtain ⟨q3, q3a, q3b⟩ := divs (x := y) hw (by omega)
  obtain ⟨q4, q4a, q4b⟩ := divs (x := b) hw (by omega)
  have nh : ¬ hsp r = 0 := by omega
  have nw : ¬ vsp r = 0 := by omega
  have p1 : 0 ≤ y / vsp r - b / vsp r := by rcases hw with h | h | h <;> rw [h] <;> omega
  have p2 : y / vsp r - b / vsp r ≤ 1000 := by rcases hw with h | h | h <;> rw [h] <;> omega
  have p3 : 0 ≤ x / hsp r - a / hsp r := by rcases hh with h | h | h <;> rw [h] <;> omega
  have p4 : x / hsp r - a / hsp r ≤ 1000 := by rcases hh with h | h | h <;> rw [h] <;> omega
  have s1 : 0 ≤ (y / vsp r - b / vsp r) * cs := Int.mul_nonneg p1 c0
  have s2 : (y / vsp r - b / vsp r) * cs ≤ 1000 * 1000 := Int.mul_le_mul (by omega) (by omega) (by omega) (by omega)
  have s3 : 0 ≤ (y - b) * ys := Int.mul_nonneg (by omega) y0
  have s4 : (y - b) * ys ≤ 1000 * 1000 := Int.mul_le_mul (by omega) (by omega) (by omega) (by omega)
  clear hh hw R1 R2 R3 e1 e2 e3
  generalize hsp r = hs at *
  generalize vsp r = vs at *
  generalize x / hs = X at *
  generalize a / hs = XA at *
  generalize y / vs = Y at *
  generalize b / vs = YB at *
  have b1 : decide ((i : Int) < 0) = false := decide_eq_false (by omega)
  have b2 : decide ((L1.length : Int) ≤ i) = false := decide_eq_false (by omega)
  have b3 : decide ((k : Int) < 0) = false := decide_eq_false (by omega)
  have b4 : decide ((L2.length : Int) ≤ k) = false := decide_eq_false (by omega)
  have b5 : decide ((L3.length : Int) ≤ k) = false := decide_eq_false (by omega)
  generalize L1.length = N1 at *
  generalize L2.length = N2 at *
  generalize L3.length = N3 at *
  go_enter Try.func11, Try.ntmps11
  have hgw : Grows w ((w.alloc (.cells #[.int .i64 a, .int .i64 b, .int .i64 c, .int .i64 d, .int .i64 ys, .int .i64 cs, .int .i64 r, .slice (some ⟨B1, o1, none⟩) N1 d1, .slice (some ⟨B2, o2, none⟩) N2 d2, .slice (some ⟨B3, o3, none⟩) N3 d3] 31)).alloc (.cells #[.int .i64 0, .int .i64 0, .int .i64 0, .int .i64 0] 34)) := ((Grows.rfl' w).alloc' _).alloc' _
  have HX : Hid (PlAt ((w.alloc (.cells #[.int .i64 a, .int .i64 b, .int .i64 c, .int .i64 d, .int .i64 ys, .int .i64 cs, .int .i64 r, .slice (some ⟨B1, o1, none⟩) N1 d1, .slice (some ⟨B2, o2, none⟩) N2 d2, .slice (some ⟨B3, o3, none⟩) N3 d3] 31)).alloc (.cells #[.int .i64 0, .int .i64 0, .int .i64 0, .int .i64 0] 34)) w.heap.size a b c d ys cs r (.slice (some ⟨B1, o1, none⟩) N1 d1) (.slice (some ⟨B2, o2, none⟩) N2 d2) (.slice (some ⟨B3, o3, none⟩) N3 d3)) := PlAt.grows (heap_alloc_new _ _) ((Grows.rfl' _).alloc' _)
  have hcol : ((w.alloc (.cells #[.int .i64 a, .int .i64 b, .int .i64 c, .int .i64 d, .int .i64 ys, .int .i64 cs, .int .i64 r, .slice (some ⟨B1, o1, none⟩) N1 d1, .slice (some ⟨B2, o2, none⟩) N2 d2, .slice (some ⟨B3, o3, none⟩) N3 d3] 31)).alloc (.cells #[.int .i64 0, .int .i64 0, .int .i64 0, .int .i64 0] 34)).heap[w.heap.size + 1]? = some (.cells #[.int .i64 0, .int .i64 0, .int .i64 0, .int .i64 0] 34 (0, 0)) := by
    have := heap_alloc_new (w.alloc (.cells #[.int .i64 a, .int .i64 b, .int .i64 c, .int .i64 d, .int .i64 ys, .int .i64 cs, .int .i64 r, .slice (some ⟨B1, o1, none⟩) N1 d1, .slice (some ⟨B2, o2, none⟩) N2 d2, .slice (some ⟨B3, o3, none⟩) N3 d3] 31)) (.cells #[.int .i64 0, .int .i64 0, .int .i64 0, .int .i64 0] 34)
    rw [World.size_alloc] at this
    exact this
  have HC := Lib.hid hcol
  have HG := Lib.hid hgw
  have g1' := hgw.cell_some C1
  have g2' := hgw.cell_some C2
  have g3' := hgw.cell_some C3
  clear hgw hcol C1 C2 C3
  go_upto_region 1 with fail
  generalize (w.alloc (.cells #[.int .i64 a, .int .i64 b, .int .i64 c, .int .i64 d, .int .i64 ys, .int .i64 cs, .int .i64 r, .slice (some ⟨B1, o1, none⟩) N1 d1, .slice (some ⟨B2, o2, none⟩) N2 d2, .slice (some ⟨B3, o3, none⟩) N3 d3] 31)).alloc (.cells #[.int .i64 0, .int .i64 0, .int .i64 0, .int .i64 0] 34) = w1 at *
  obtain ⟨t0, t1, t2, t3, t4, t5, t6, t7, t8, t9⟩ := HX.out.cells
  go_wp2_with fail
  refine (HSP.out _).mono ?_
  rintro e w1' ⟨rfl, rfl⟩
  go_wp2_with fail
  clear t0 t1 t2 t3 t4 t5 t6 t7 t8 t9
  apply wp_region_lex_lit 23 (by kernel_rfl) (by kernel_rfl)
  iterate 23
    apply lex_pin
    · intro wq hgq hdq Kq hKq
      obtain ⟨t0, t1, t2, t3, t4, t5, t6, t7, t8, t9⟩ := (HX.out.grows ((Grows.rfl' _).drew'.step hgq)).cells
      go_wp2
      exact hKq _ (Grows.rfl' _)
    · kernel_rfl
  refine lex_end ?_
  intro w2 hg2 _
  have HG12 : Hid (Grows w1 w2) := (Grows.rfl' _).drew'.step hg2
  replace HX := Lib.hid (HX.out.grows HG12.out)
  replace HG := Lib.hid (HG.out.step HG12.out)
  have hsz : w.heap.size + 1 < w1.heap.size := (Array.getElem?_eq_some_iff.1 HC.out).1
  replace HC : Hid (w2.heap[w.heap.size + 1]? = some (.cells #[.int .i64 0, .int .i64 0, .int .i64 0, .int .i64 0] 34 (0, 0))) := (HG12.out.block _ hsz).trans HC.out
  have v1 := HG12.out.cell_some g1'
  have v2 := HG12.out.cell_some g2'
  have v3 := HG12.out.cell_some g3'
  clear hg2 HG12 g1' g2' g3'
  obtain ⟨t0, t1, t2, t3, t4, t5, t6, t7, t8, t9⟩ := HX.out.cells
  go_wp2_with fail
  clear t0 t1 t2 t3 t4 t5 t6 t7 t8 t9
  have f1 : decide ((i : Int) < N1) = true := decide_eq_true (by omega)
  have f2 : decide ((k : Int) < N2) = true := decide_eq_true (by omega)
  have f3 : decide ((k : Int) < N3) = true := decide_eq_true (by omega)
  apply wp_region_lex_lit 16 (by kernel_rfl) (by kernel_rfl)
  iterate 16
    apply lex_pin
    · intro wq hgq hdq Kq hKq
      obtain ⟨t0, t1, t2, t3, t4, t5, t6, t7, t8, t9⟩ := (HX.out.grows ((Grows.rfl' _).drew'.step hgq)).cells
      have u1 := ((Grows.rfl' _).drew'.step hgq).cell_some v1
      have u2 := ((Grows.rfl' _).drew'.step hgq).cell_some v2
      have u3 := ((Grows.rfl' _).drew'.step hgq).cell_some v3
      go_wp2
      exact hKq _ (Grows.rfl' _)
    · kernel_rfl
  refine lex_end ?_
  intro w3 hg3 _
  have HG23 : Hid (Grows w2 w3) := (Grows.rfl' _).drew'.step hg3
  have hsz2 : w.heap.size + 1 < w2.heap.size := (Array.getElem?_eq_some_iff.1 HC.out).1
  have hbl : w3.heap[w.heap.size + 1]? = some (.cells #[.int .i64 0, .int .i64 0, .int .i64 0, .int .i64 0] 34 (0, 0)) := (HG23.out.block _ hsz2).trans HC.out
  have kc : ∀ (i : Nat) (u : Value), (#[.int .i64 0, .int .i64 0, .int .i64 0, .int .i64 0] : Array Value)[i]? = some u → w3.cell? ⟨w.heap.size + 1, i, none⟩ = some u := fun i u hu => by simpa [World.cell?, hbl] using hu
  have k0 := kc 0 _ rfl
  have k1 := kc 1 _ rfl
  have k2 := kc 2 _ rfl
  have k3 := kc 3 _ rfl
  have kf : ∀ i, w3.frozen? ⟨w.heap.size + 1, i, none⟩ = false := fun i => by simp [World.frozen?, hbl]
  replace HG := Lib.hid (HG.out.step HG23.out)
  clear hg3 HG23 hbl kc HC HX
  go_wp2_with fail
  refine bodyPost_ret (v := .tuple #[.agg #[.int .i64 n1, .int .i64 n2, .int .i64 n3, .int .i64 0], .bool true]) (by simp [results, Try.results11, go_sem, k0, k1, k2, k3]) rfl ⟨rfl, ?_⟩
  iterate 4 refine Grows.set' ?_ (by dsimp only; omega) _
  exact HG.out
end Go.Proofs.Ytbmpjehahimelaa

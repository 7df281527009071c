/-
  Contracts of the statements' samePlanes and of the reference's area and YCbCrNew. Conditions stand in each theorem.
-/
import Derived.Test.YtjcaibhodplojaaYSpec
import Derived.Test.YtjcaibhodplojaaSame
import Derived.Deep.Cut
namespace Go.Proofs.Ytjcaibhodplojaa
open Go.RowKit
set_option linter.unusedVariables false

/-- Planes that read as bounds, strides, ratio and three lists. -/
def RdPl (a b c d ys cs r : Int) (L1 L2 L3 : List Int) (v : Value) (w : World) : Prop :=
  ∃ p1 p2 p3, v = .agg #[.int .i64 a, .int .i64 b, .int .i64 c, .int .i64 d, .int .i64 ys, .int .i64 cs, .int .i64 r, p1, p2, p3] ∧ RdI w p1 L1 ∧ RdI w p2 L2 ∧ RdI w p3 L3
theorem RdPl.keep {a b c d ys cs r : Int} {L1 L2 L3 : List Int} (v : Value) (w w' : World) (hg : Grows w w') (h : RdPl a b c d ys cs r L1 L2 L3 v w) : RdPl a b c d ys cs r L1 L2 L3 v w' := by
  obtain ⟨p1, p2, p3, h0, h1, h2, h3⟩ := h
  exact ⟨p1, p2, p3, h0, h1.grows hg, h2.grows hg, h3.grows hg⟩
theorem IsPl.rd {a b c d ys cs r : Int} {L1 L2 L3 : List Int} {W w : World} {v : Value} (h : IsPl a b c d ys cs r L1 L2 L3 W v w) (l1 : L1.length ≤ 17592186044416) (l2 : L2.length ≤ 17592186044416) (l3 : L3.length ≤ 17592186044416)
    (z1 : ∀ n ∈ L1, -9223372036854775808 ≤ n ∧ n ≤ 9223372036854775807) (z2 : ∀ n ∈ L2, -9223372036854775808 ≤ n ∧ n ≤ 9223372036854775807) (z3 : ∀ n ∈ L3, -9223372036854775808 ≤ n ∧ n ≤ 9223372036854775807) : RdPl a b c d ys cs r L1 L2 L3 v w := by
  obtain ⟨p1, p2, p3, h0, h1, h2, h3⟩ := h
  exact ⟨p1, p2, p3, h0, h1.rd l1 z1, h2.rd l2 z2, h3.rd l3 z3⟩

theorem sameInts_yes (v1 v2 : Value) (xs : List Int) (w : World) (h1 : RdI w v1 xs) (h2 : RdI w v2 xs) :
    Calls Try.prog 23 #[v1, v2] w fun e w' => e = .returned (.bool true) ∧ Grows w w' :=
  (sameInts_any v1 v2 xs xs w h1 h2).mono fun _ _ ⟨he, hg⟩ => ⟨by rw [he]; simp, hg⟩

set_option maxHeartbeats 2000000 in
theorem samePlanes_yes (a b c d ys cs r : Int) (v1 v2 : Value) (L1 L2 L3 : List Int) (w : World) (h1 : RdPl a b c d ys cs r L1 L2 L3 v1 w) (h2 : RdPl a b c d ys cs r L1 L2 L3 v2 w) :
    Calls Try.prog 11 #[v1, v2] w fun e w' => e = .returned (.bool true) ∧ Grows w w' := by
  obtain ⟨p1, p2, p3, rfl, a1, a2, a3⟩ := h1
  obtain ⟨u1, u2, u3, rfl, b1, b2, b3⟩ := h2
  have HA : Hid (RdI w p1 L1 ∧ RdI w p2 L2 ∧ RdI w p3 L3) := ⟨a1, a2, a3⟩
  have HB : Hid (RdI w u1 L1 ∧ RdI w u2 L2 ∧ RdI w u3 L3) := ⟨b1, b2, b3⟩
  obtain ⟨A1, c1, rfl, _⟩ := a1
  obtain ⟨A2, c2, rfl, _⟩ := a2
  obtain ⟨A3, c3, rfl, _⟩ := a3
  obtain ⟨B1, e1, rfl, _⟩ := b1
  obtain ⟨B2, e2, rfl, _⟩ := b2
  obtain ⟨B3, e3, rfl, _⟩ := b3
  have hy : (ys == ys) = true := by simp
  have hcs : (cs == cs) = true := by simp
  have hr : (r == r) = true := by simp
  go_enter Try.func11, Try.ntmps11
  have hgw : Grows w ((w.alloc (.cells #[.int .i64 a, .int .i64 b, .int .i64 c, .int .i64 d, .int .i64 ys, .int .i64 cs, .int .i64 r, .slice A1 L1.length c1, .slice A2 L2.length c2, .slice A3 L3.length c3] 29)).alloc (.cells #[.int .i64 a, .int .i64 b, .int .i64 c, .int .i64 d, .int .i64 ys, .int .i64 cs, .int .i64 r, .slice B1 L1.length e1, .slice B2 L2.length e2, .slice B3 L3.length e3] 29)) := ((Grows.rfl' w).alloc' _).alloc' _
  have HX1 : Hid (PlAt ((w.alloc (.cells #[.int .i64 a, .int .i64 b, .int .i64 c, .int .i64 d, .int .i64 ys, .int .i64 cs, .int .i64 r, .slice A1 L1.length c1, .slice A2 L2.length c2, .slice A3 L3.length c3] 29)).alloc (.cells #[.int .i64 a, .int .i64 b, .int .i64 c, .int .i64 d, .int .i64 ys, .int .i64 cs, .int .i64 r, .slice B1 L1.length e1, .slice B2 L2.length e2, .slice B3 L3.length e3] 29)) w.heap.size a b c d ys cs r (.slice A1 L1.length c1) (.slice A2 L2.length c2) (.slice A3 L3.length c3)) := PlAt.grows (heap_alloc_new _ _) ((Grows.rfl' _).alloc' _)
  have HX2 : Hid (PlAt ((w.alloc (.cells #[.int .i64 a, .int .i64 b, .int .i64 c, .int .i64 d, .int .i64 ys, .int .i64 cs, .int .i64 r, .slice A1 L1.length c1, .slice A2 L2.length c2, .slice A3 L3.length c3] 29)).alloc (.cells #[.int .i64 a, .int .i64 b, .int .i64 c, .int .i64 d, .int .i64 ys, .int .i64 cs, .int .i64 r, .slice B1 L1.length e1, .slice B2 L2.length e2, .slice B3 L3.length e3] 29)) (w.heap.size + 1) a b c d ys cs r (.slice B1 L1.length e1) (.slice B2 L2.length e2) (.slice B3 L3.length e3)) := by
    have := heap_alloc_new (w.alloc (.cells #[.int .i64 a, .int .i64 b, .int .i64 c, .int .i64 d, .int .i64 ys, .int .i64 cs, .int .i64 r, .slice A1 L1.length c1, .slice A2 L2.length c2, .slice A3 L3.length c3] 29)) (.cells #[.int .i64 a, .int .i64 b, .int .i64 c, .int .i64 d, .int .i64 ys, .int .i64 cs, .int .i64 r, .slice B1 L1.length e1, .slice B2 L2.length e2, .slice B3 L3.length e3] 29)
    rw [World.size_alloc] at this
    exact this
  have HG := Lib.hid hgw
  clear hgw
  go_upto_region 1 with fail
  generalize (w.alloc (.cells #[.int .i64 a, .int .i64 b, .int .i64 c, .int .i64 d, .int .i64 ys, .int .i64 cs, .int .i64 r, .slice A1 L1.length c1, .slice A2 L2.length c2, .slice A3 L3.length c3] 29)).alloc (.cells #[.int .i64 a, .int .i64 b, .int .i64 c, .int .i64 d, .int .i64 ys, .int .i64 cs, .int .i64 r, .slice B1 L1.length e1, .slice B2 L2.length e2, .slice B3 L3.length e3] 29) = w1 at *
  obtain ⟨k0, k1, k2, k3, k4, k5, k6, k7, k8, k9⟩ := HX1.out.cells
  obtain ⟨l0, l1, l2, l3, l4, l5, l6, l7, l8, l9⟩ := HX2.out.cells
  go_wp2_with fail
  refine (sameInts_yes _ _ L1 _ (HA.out.1.grows HG.out) (HB.out.1.grows HG.out)).mono ?_
  rintro e w2 ⟨rfl, hg2⟩
  replace HX1 := Lib.hid (HX1.out.grows hg2)
  replace HX2 := Lib.hid (HX2.out.grows hg2)
  replace HG := Lib.hid (HG.out.step hg2)
  clear hg2 k0 k1 k2 k3 k4 k5 k6 k7 k8 k9 l0 l1 l2 l3 l4 l5 l6 l7 l8 l9
  obtain ⟨k0, k1, k2, k3, k4, k5, k6, k7, k8, k9⟩ := HX1.out.cells
  obtain ⟨l0, l1, l2, l3, l4, l5, l6, l7, l8, l9⟩ := HX2.out.cells
  go_wp2_with fail
  refine (sameInts_yes _ _ L2 _ (HA.out.2.1.grows HG.out) (HB.out.2.1.grows HG.out)).mono ?_
  rintro e w3 ⟨rfl, hg3⟩
  replace HX1 := Lib.hid (HX1.out.grows hg3)
  replace HX2 := Lib.hid (HX2.out.grows hg3)
  replace HG := Lib.hid (HG.out.step hg3)
  clear hg3 k0 k1 k2 k3 k4 k5 k6 k7 k8 k9 l0 l1 l2 l3 l4 l5 l6 l7 l8 l9
  obtain ⟨k0, k1, k2, k3, k4, k5, k6, k7, k8, k9⟩ := HX1.out.cells
  obtain ⟨l0, l1, l2, l3, l4, l5, l6, l7, l8, l9⟩ := HX2.out.cells
  go_wp2_with fail
  refine (sameInts_yes _ _ L3 _ (HA.out.2.2.grows HG.out) (HB.out.2.2.grows HG.out)).mono ?_
  rintro e w4 ⟨rfl, hg4⟩
  go_wp2_with fail
  go_ret
  exact ⟨rfl, HG.out.step hg4⟩

set_option maxHeartbeats 1000000 in
theorem area_any (a b c d r : Int) (w : World) (h : PlainY a b c d r) : Calls Try.prog 29 #[box4 a b c d] w fun e w' => e = .returned (.int .i64 (nY a b c d : Nat)) ∧ Grows w w' := by
  have hn := h.nY_eq
  obtain ⟨⟨⟨f1, f2⟩, ⟨f3, f4⟩, ⟨f5, f6⟩, ⟨f7, f8⟩⟩, _⟩ := h
  have hA : (c - a) * (d - b) = (nY a b c d : Int) := hn.1.symm
  have hl := hn.2
  clear hn
  generalize nY a b c d = n at *
  go_enter Try.func29, Try.ntmps29
  go_wp2
  go_ret
  exact ⟨by first | rfl | exact ret_int (by omega), (Grows.rfl' _).alloc' _⟩

/-- A slice over a row of n zeros. -/
def ZRow (n : Nat) (B : Nat) (v : Value) (w : World) : Prop := ∃ g, v = .slice (some ⟨g, 0, none⟩) n n ∧ B < g ∧ Ix w g n (fun _ => 0)
theorem ZRow.keep {n B : Nat} (v : Value) (w w' : World) (hg : Grows w w') (h : ZRow n B v w) : ZRow n B v w' := by
  obtain ⟨g, h1, h2, h3⟩ := h
  exact ⟨g, h1, h2, h3.grows hg⟩
/-- Planes over three such rows. -/
def ZPl (a b c d ys cs r : Int) (n0 n1 B : Nat) (v : Value) (w : World) : Prop :=
  ∃ g1 g2 g3, v = .agg #[.int .i64 a, .int .i64 b, .int .i64 c, .int .i64 d, .int .i64 ys, .int .i64 cs, .int .i64 r, .slice (some ⟨g1, 0, none⟩) n0 n0, .slice (some ⟨g2, 0, none⟩) n1 n1, .slice (some ⟨g3, 0, none⟩) n1 n1] ∧
    (B < g1 ∧ B < g2 ∧ B < g3) ∧ Ix w g1 n0 (fun _ => 0) ∧ Ix w g2 n1 (fun _ => 0) ∧ Ix w g3 n1 (fun _ => 0)
theorem ZPl.keep {a b c d ys cs r : Int} {n0 n1 B : Nat} (v : Value) (w w' : World) (hg : Grows w w') (h : ZPl a b c d ys cs r n0 n1 B v w) : ZPl a b c d ys cs r n0 n1 B v w' := by
  obtain ⟨g1, g2, g3, h0, hb, h1, h2, h3⟩ := h
  exact ⟨g1, g2, g3, h0, hb, h1.grows hg, h2.grows hg, h3.grows hg⟩

set_option maxRecDepth 20000 in
set_option maxHeartbeats 4000000 in
theorem specNewY_any (a b c d r : Int) (w : World) (h : PlainY a b c d r) :
    Calls Try.prog 14 #[box4 a b c d, .int .i64 r] w fun e w' => ∃ v, e = .returned v ∧ Grows w w' ∧ RdPl a b c d (c - a) (acr a c (hsp r)) r (bytesOf (nY a b c d) fun _ => 0) (bytesOf (nC a b c d r) fun _ => 0) (bytesOf (nC a b c d r) fun _ => 0) v w' := by
  have hn0 := h.nY_eq.2
  have hn1 := h.nC_eq.2
  have hcw := h.cw
  have hch := h.ch
  have hE : acr a c (hsp r) * acr b d (vsp r) = (nC a b c d r : Int) := h.nC_eq.1.symm
  have HAR : Hid (∀ W, Calls Try.prog 29 #[box4 a b c d] W fun e w' => e = .returned (.int .i64 (nY a b c d : Nat)) ∧ Grows W w') := fun W => area_any a b c d r W h
  have hw : vsp r = 1 ∨ vsp r = 2 ∨ vsp r = (4 : Int) := by rcases vsp_or r with h | h <;> simp [h]
  have hh := hsp_or r
  obtain ⟨⟨⟨f1, f2⟩, ⟨f3, f4⟩, ⟨f5, f6⟩, ⟨f7, f8⟩⟩, ⟨g1, g2⟩, ⟨g3, g4⟩, ⟨r0, r5⟩⟩ := h
  have HA1 : Hid (∀ W, Calls Try.prog 28 #[.int .i64 a, .int .i64 c, .int .i64 (hsp r)] W fun e w' => e = .returned (.int .i64 (acr a c (hsp r))) ∧ Grows W w') := fun W => across_any a c _ W hh (by omega) (by omega) (by omega) (by omega)
  have HA2 : Hid (∀ W, Calls Try.prog 28 #[.int .i64 b, .int .i64 d, .int .i64 (vsp r)] W fun e w' => e = .returned (.int .i64 (acr b d (vsp r))) ∧ Grows W w') := fun W => across_any b d _ W hw (by omega) (by omega) (by omega) (by omega)
  have HSP : Hid (∀ W, Calls Try.prog 27 #[.int .i64 r] W fun e w' => e = .returned (.tuple #[.int .i64 (hsp r), .int .i64 (vsp r), .bool true]) ∧ W = w') := fun W => span_any r W r0 r5
  have hmk : ∀ (n : Nat), n ≤ 1000000 → ∀ W : World, (Instr.makeSlice 27 (.int .i64 (n : Nat)) (.int .i64 (n : Nat))).run Try.prog W = .ok (.slice (some ⟨W.heap.size, 0, none⟩) n n) (W.alloc (.cells (madeCells #[.int .i64 0] n) 3)) :=
    fun n hn W => run_make_row' 27 3 (.int .i64 0) 8 Try.underlying27 info_int rfl .i64 .i64 n (by omega) (by omega) W
  have HMK0 := Lib.hid (hmk (nY a b c d) hn0)
  have HMK1 := Lib.hid (hmk (nC a b c d r) hn1)
  clear hmk hh hw
  generalize nY a b c d = n0 at *
  generalize nC a b c d r = n1 at *
  generalize acr a c (hsp r) = cw at *
  generalize acr b d (vsp r) = ch at *
  generalize hsp r = hs at *
  generalize vsp r = vs at *
  go_enter Try.func14, Try.ntmps14
  go_wp2_with fail
  refine (HSP.out _).mono ?_
  rintro e w1 ⟨rfl, rfl⟩
  have hgw : Grows w ((w.alloc (.cells #[.int .i64 a, .int .i64 b, .int .i64 c, .int .i64 d] 26)).alloc (.cells #[.int .i64 0, .int .i64 0, .int .i64 0, .int .i64 0, .int .i64 0, .int .i64 0, .int .i64 0, .slice none 0 0, .slice none 0 0, .slice none 0 0] 29)) := ((Grows.rfl' w).alloc' _).alloc' _
  have HBX : Hid (BoxAt ((w.alloc (.cells #[.int .i64 a, .int .i64 b, .int .i64 c, .int .i64 d] 26)).alloc (.cells #[.int .i64 0, .int .i64 0, .int .i64 0, .int .i64 0, .int .i64 0, .int .i64 0, .int .i64 0, .slice none 0 0, .slice none 0 0, .slice none 0 0] 29)) w.heap.size a b c d) := BoxAt.grows ⟨cell_top rfl rfl, cell_top rfl rfl, cell_top rfl rfl, cell_top rfl rfl⟩ ((Grows.rfl' _).alloc' _)
  have HPB : Hid (((w.alloc (.cells #[.int .i64 a, .int .i64 b, .int .i64 c, .int .i64 d] 26)).alloc (.cells #[.int .i64 0, .int .i64 0, .int .i64 0, .int .i64 0, .int .i64 0, .int .i64 0, .int .i64 0, .slice none 0 0, .slice none 0 0, .slice none 0 0] 29)).heap[w.heap.size + 1]? = some (.cells #[.int .i64 0, .int .i64 0, .int .i64 0, .int .i64 0, .int .i64 0, .int .i64 0, .int .i64 0, .slice none 0 0, .slice none 0 0, .slice none 0 0] 29 (0, 0))) := by
    have := heap_alloc_new (w.alloc (.cells #[.int .i64 a, .int .i64 b, .int .i64 c, .int .i64 d] 26)) (.cells #[.int .i64 0, .int .i64 0, .int .i64 0, .int .i64 0, .int .i64 0, .int .i64 0, .int .i64 0, .slice none 0 0, .slice none 0 0, .slice none 0 0] 29)
    rw [World.size_alloc] at this
    exact this
  have HG := Lib.hid hgw
  have hsz : w.heap.size + 1 < ((w.alloc (.cells #[.int .i64 a, .int .i64 b, .int .i64 c, .int .i64 d] 26)).alloc (.cells #[.int .i64 0, .int .i64 0, .int .i64 0, .int .i64 0, .int .i64 0, .int .i64 0, .int .i64 0, .slice none 0 0, .slice none 0 0, .slice none 0 0] 29)).heap.size := by simp
  clear hgw
  generalize (w.alloc (.cells #[.int .i64 a, .int .i64 b, .int .i64 c, .int .i64 d] 26)).alloc (.cells #[.int .i64 0, .int .i64 0, .int .i64 0, .int .i64 0, .int .i64 0, .int .i64 0, .int .i64 0, .slice none 0 0, .slice none 0 0, .slice none 0 0] 29) = w1 at *
  go_wp2_with fail
  apply wp_region_lex_lit 14 (by kernel_rfl) (by kernel_rfl)
  iterate 6
    apply lex_pin
    · intro wq hgq hdq Kq hKq
      obtain ⟨q0, q1, q2, q3⟩ := HBX.out.grows ((Grows.rfl' _).drew'.step hgq)
      go_wp2_with ((go_at_call 28; refine (HA1.out _).mono ?_); rintro e wq' ⟨rfl, hgq'⟩)
      first | exact hKq _ (Grows.rfl' _) | exact hKq _ hgq'
    · kernel_rfl
  iterate 8
    apply lex_pin
    · intro wq hgq hdq Kq hKq
      obtain ⟨q0, q1, q2, q3⟩ := HBX.out.grows ((Grows.rfl' _).drew'.step hgq)
      go_wp2_with ((go_at_call 28; refine (HA2.out _).mono ?_); rintro e wq' ⟨rfl, hgq'⟩)
      first | exact hKq _ (Grows.rfl' _) | exact hKq _ hgq'
    · kernel_rfl
  refine lex_end ?_
  intro w2 hg2 _
  have HG12 : Hid (Grows w1 w2) := (Grows.rfl' _).drew'.step hg2
  replace HBX := Lib.hid (HBX.out.grows HG12.out)
  replace HPB : Hid (w2.heap[w.heap.size + 1]? = some (.cells #[.int .i64 0, .int .i64 0, .int .i64 0, .int .i64 0, .int .i64 0, .int .i64 0, .int .i64 0, .slice none 0 0, .slice none 0 0, .slice none 0 0] 29 (0, 0))) := (HG12.out.block _ hsz).trans HPB.out
  replace HG := Lib.hid (HG.out.step HG12.out)
  have hsz2 : w.heap.size + 1 < w2.heap.size := (Array.getElem?_eq_some_iff.1 HPB.out).1
  clear hg2 hsz
  go_wp2_with fail
  apply wp_region_lex_lit 20 (by kernel_rfl) (by kernel_rfl)
  iterate 10
    apply lex_pin
    · intro wq hgq hdq Kq hKq
      obtain ⟨q0, q1, q2, q3⟩ := HBX.out.grows ((Grows.rfl' _).drew'.step hgq)
      go_wp2_with ((go_at_call 29; refine (HAR.out _).mono ?_); rintro e wq' ⟨rfl, hgq'⟩)
      first | exact hKq _ (Grows.rfl' _) | exact hKq _ hgq'
    · kernel_rfl
  apply lex_any (ZRow n0 (w.heap.size + 1)) ZRow.keep
  · intro wq hgq hdq Kq hKq
    have hm := HMK0.out
    have hs2 : w2.heap.size ≤ wq.heap.size := hgq.size
    go_wp2
    exact hKq _ _ ((Grows.rfl' _).alloc' _) ⟨wq.heap.size, rfl, by omega, World.rowIs_made _ _ _ _⟩
  intro va
  simp only [Act.put, List.setIfInBounds_toArray, List.set_cons_succ, List.set_cons_zero]
  iterate 3
    apply lex_pinv
    · intro wq hgq hdq Kq hKq
      go_wp2
      exact hKq _ (Grows.rfl' _)
    simp only [Act.put, List.setIfInBounds_toArray, List.set_cons_succ, List.set_cons_zero]
  apply lex_any (ZRow n1 (w.heap.size + 1)) ZRow.keep
  · intro wq hgq hdq Kq hKq
    have hm := HMK1.out
    have hs2 : w2.heap.size ≤ wq.heap.size := hgq.size
    go_wp2
    exact hKq _ _ ((Grows.rfl' _).alloc' _) ⟨wq.heap.size, rfl, by omega, World.rowIs_made _ _ _ _⟩
  intro vb
  simp only [Act.put, List.setIfInBounds_toArray, List.set_cons_succ, List.set_cons_zero]
  iterate 3
    apply lex_pinv
    · intro wq hgq hdq Kq hKq
      go_wp2
      exact hKq _ (Grows.rfl' _)
    simp only [Act.put, List.setIfInBounds_toArray, List.set_cons_succ, List.set_cons_zero]
  apply lex_any (ZRow n1 (w.heap.size + 1)) ZRow.keep
  · intro wq hgq hdq Kq hKq
    have hm := HMK1.out
    have hs2 : w2.heap.size ≤ wq.heap.size := hgq.size
    go_wp2
    exact hKq _ _ ((Grows.rfl' _).alloc' _) ⟨wq.heap.size, rfl, by omega, World.rowIs_made _ _ _ _⟩
  intro vc
  simp only [Act.put, List.setIfInBounds_toArray, List.set_cons_succ, List.set_cons_zero]
  apply lex_any (ZPl a b c d (c - a) cw r n0 n1 (w.heap.size + 1)) ZPl.keep
  · intro wq hgq hdq Kq hKq
    obtain ⟨x1, rfl, b1, i1⟩ := hdq 10 _ rfl (by kernel_rfl)
    obtain ⟨x2, rfl, b2, i2⟩ := hdq 14 _ rfl (by kernel_rfl)
    obtain ⟨x3, rfl, b3, i3⟩ := hdq 18 _ rfl (by kernel_rfl)
    have HO := Lib.hid (And.intro i1 (And.intro i2 i3))
    clear hdq i1 i2 i3
    go_wp2
    exact hKq _ _ (Grows.rfl' _) ⟨_, _, _, rfl, ⟨b1, b2, b3⟩, HO.out.1, HO.out.2.1, HO.out.2.2⟩
  intro vd
  simp only [Act.put, List.setIfInBounds_toArray, List.set_cons_succ, List.set_cons_zero]
  refine lex_end ?_
  intro w3 hg3 hd3
  obtain ⟨x1, x2, x3, rfl, ⟨b1, b2, b3⟩, i1, i2, i3⟩ := hd3 19 _ rfl
  have HO := Lib.hid (And.intro i1 (And.intro i2 i3))
  clear hd3 i1 i2 i3
  have HG3 := Lib.hid (HG.out.drew'.step hg3)
  have hbl : w3.heap[w.heap.size + 1]? = some (.cells #[.int .i64 0, .int .i64 0, .int .i64 0, .int .i64 0, .int .i64 0, .int .i64 0, .int .i64 0, .slice none 0 0, .slice none 0 0, .slice none 0 0] 29 (0, 0)) := (((Grows.rfl' _).drew'.step hg3).block _ hsz2).trans HPB.out
  have kc : ∀ (i : Nat) (u : Value), (#[.int .i64 0, .int .i64 0, .int .i64 0, .int .i64 0, .int .i64 0, .int .i64 0, .int .i64 0, .slice none 0 0, .slice none 0 0, .slice none 0 0] : Array Value)[i]? = some u → w3.cell? ⟨w.heap.size + 1, i, none⟩ = some u := fun i u hu => by simpa [World.cell?, hbl] using hu
  have k0 := kc 0 _ rfl
  have k1 := kc 1 _ rfl
  have k2 := kc 2 _ rfl
  have k3 := kc 3 _ rfl
  have k4 := kc 4 _ rfl
  have k5 := kc 5 _ rfl
  have k6 := kc 6 _ rfl
  have k7 := kc 7 _ rfl
  have k8 := kc 8 _ rfl
  have k9 := kc 9 _ rfl
  have kf : ∀ i, w3.frozen? ⟨w.heap.size + 1, i, none⟩ = false := fun i => by simp [World.frozen?, hbl]
  clear hbl kc hg3 HPB HBX HG HG12
  go_wp2_with fail
  refine bodyPost_ret (v := .agg #[.int .i64 a, .int .i64 b, .int .i64 c, .int .i64 d, .int .i64 (c - a), .int .i64 cw, .int .i64 r, .slice (some ⟨x1, 0, none⟩) n0 n0, .slice (some ⟨x2, 0, none⟩) n1 n1, .slice (some ⟨x3, 0, none⟩) n1 n1]) (by simp [results, Try.results14, go_sem, k0, k1, k2, k3, k4, k5, k6, k7, k8, k9]) rfl ⟨_, rfl, ?_, _, _, _, rfl, ?_, ?_, ?_⟩
  · iterate 10 refine Grows.set' ?_ (by dsimp only; omega) _
    exact HG3.out
  · refine Ix.rd ?_ (by omega) (fun _ _ => by omega)
    iterate 10 refine World.rowIs.setOther ?_ (by dsimp only; omega) _
    exact HO.out.1
  · refine Ix.rd ?_ (by omega) (fun _ _ => by omega)
    iterate 10 refine World.rowIs.setOther ?_ (by dsimp only; omega) _
    exact HO.out.2.1
  · refine Ix.rd ?_ (by omega) (fun _ _ => by omega)
    iterate 10 refine World.rowIs.setOther ?_ (by dsimp only; omega) _
    exact HO.out.2.2
end Go.Proofs.Ytjcaibhodplojaa

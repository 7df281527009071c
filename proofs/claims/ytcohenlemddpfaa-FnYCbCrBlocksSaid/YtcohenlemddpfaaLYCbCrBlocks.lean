/-
  FnYCbCrBlocks returns true for every input, and each argument reads afterwards as before. Conditions: none beyond the row's own.
-/
import Derived.Test.YtcohenlemddpfaaYRSpec
import Derived.Test.YtcohenlemddpfaaLift
import Derived.Deep.Cut
namespace Go.Proofs.Ytcohenlemddpfaa.lawYCbCrBlocks
open Go.ChangeShapes Go.WideShapes Go.ChangeAt Go.RowKit
set_option linter.unusedVariables false

/-- Block n holds a color. -/
def Col4 (w : World) (n : Nat) (p q s t : Int) : Prop := w.heap[n]? = some (.cells #[.int .i64 p, .int .i64 q, .int .i64 s, .int .i64 t] 30 (0, 0))
section
variable {w : World} {n : Nat} {p q s t : Int}
theorem Col4.lt (h : Col4 w n p q s t) : n < w.heap.size := (Array.getElem?_eq_some_iff.1 h).1
theorem Col4.cells (h : Col4 w n p q s t) : w.cell? ⟨n, 0, none⟩ = some (.int .i64 p) ∧ w.cell? ⟨n, 1, none⟩ = some (.int .i64 q) ∧ w.cell? ⟨n, 2, none⟩ = some (.int .i64 s) ∧ w.cell? ⟨n, 3, none⟩ = some (.int .i64 t) := by
  unfold Col4 at h
  simp [World.cell?, h]
theorem Col4.frozen (h : Col4 w n p q s t) (i : Nat) : w.frozen? ⟨n, i, none⟩ = false := by
  unfold Col4 at h
  simp [World.frozen?, h]
theorem Col4.grows {w' : World} (h : Col4 w n p q s t) (hg : Grows w w') : Col4 w' n p q s t := (hg.block n h.lt).trans h
end

/-- The world behind the store of a color into block n. -/
def put4 (w : World) (n : Nat) (p q s t : Int) : World :=
  (((w.setCell ⟨n, 0, none⟩ (.int .i64 p)).setCell ⟨n, 1, none⟩ (.int .i64 q)).setCell ⟨n, 2, none⟩ (.int .i64 s)).setCell ⟨n, 3, none⟩ (.int .i64 t)
theorem put4_same {w : World} {n : Nat} {p q s t : Int} (h : Col4 w n p q s t) (p' q' s' t' : Int) : Col4 (put4 w n p' q' s' t') n p' q' s' t' := by
  unfold Col4 at *
  simp [put4, World.setCell, Array.getElem?_modify, h]
theorem put4_other {w : World} {n m : Nat} {p q s t : Int} (h : Col4 w n p q s t) (hne : m ≠ n) (p' q' s' t' : Int) : Col4 (put4 w m p' q' s' t') n p q s t := by
  unfold put4
  refine (Below.heap_setCell _ _ _ n (Ne.symm hne)).trans ((Below.heap_setCell _ _ _ n (Ne.symm hne)).trans ((Below.heap_setCell _ _ _ n (Ne.symm hne)).trans ((Below.heap_setCell _ _ _ n (Ne.symm hne)).trans h)))
theorem put4_grows {W w : World} {n : Nat} (h : Grows W w) (hn : W.heap.size ≤ n) (p q s t : Int) : Grows W (put4 w n p q s t) := by
  unfold put4
  iterate 4 refine Grows.set' ?_ hn _
  exact h
/-- A store of a color with the same chroma, into this block or another. -/
theorem put4_chroma {w : World} {n m : Nat} {p q s t : Int} (h : Col4 w n p q s t) (p' t' : Int) : ∃ p2 t2, Col4 (put4 w m p' q s t') n p2 q s t2 := by
  by_cases e : m = n
  · subst e
    exact ⟨_, _, put4_same h _ _ _ _⟩
  · exact ⟨_, _, put4_other h e _ _ _ _⟩
theorem put4_held {w : World} {n m : Nat} {p q s t : Int} (h : Col4 w n p q s t) (p' q' s' t' : Int) : ∃ p2 q2 s2 t2, Col4 (put4 w m p' q' s' t') n p2 q2 s2 t2 := by
  by_cases e : m = n
  · subst e
    exact ⟨_, _, _, _, put4_same h _ _ _ _⟩
  · exact ⟨_, _, _, _, put4_other h e _ _ _ _⟩

/-- One operation of a list by itself: what it leaves, then the others. -/
theorem wpList_one {P : Program} {ops : Array Oper} {Q : Exit → Act → World → Prop} {rest : List Oper} {o : Oper} {a a' : Act} {w w' : World}
    (h : ∀ K : Act → World → Prop, K a' w' → wpList P ops (KPost K) [o] a w) (hr : wpList P ops Q rest a' w') : wpList P ops Q (o :: rest) a w := by
  have h1 := h (fun x y => x = a' ∧ y = w') ⟨rfl, rfl⟩
  simp only [wpList, KPost] at h1 ⊢
  split
  · rename_i hw
    rw [if_pos hw] at h1
    rcases h1 with h1 | h1
    · refine .inl ?_
      unfold Oper.wp at h1 ⊢
      generalize (execOp a.eval o).run P w = r at *
      cases r with
      | ok n w' =>
        cases n <;> simp only [Oper.upon] at h1 ⊢
        case value v => rw [h1.1, h1.2]; exact hr
        case skip => rw [h1.1, h1.2]; exact hr
        case enter f args =>
          refine Calls.mono h1 fun e w'' he => ?_
          cases e with
          | returned v => simp only at he ⊢; rw [he.1, he.2]; exact hr
          | panicked c => exact he.elim
          | outgrown => obtain ⟨_, _, hf⟩ := he; exact hf.elim
        case row r args =>
          refine Rows.mono h1 fun v w'' he => ?_
          rw [he.1, he.2]; exact hr
        case defer d => rw [h1.1, h1.2]; exact hr
        all_goals exact h1.elim
      | halt x w' => cases x <;> simp only [Oper.upon] at h1 <;> exact h1.elim
    · obtain ⟨_, _, _, hf⟩ := h1
      exact hf.elim
  · rename_i hw
    rw [if_neg hw] at h1
    rw [h1.1, h1.2]; exact hr

/-- A box for a color, made since the world W. -/
def ColBox (W : World) (v : Value) (w : World) : Prop := ∃ n, v = .pointer (some ⟨n, 0, none⟩) ∧ W.heap.size ≤ n ∧ ∃ p q s t, Col4 w n p q s t
theorem ColBox.keep {W : World} (v : Value) (w w' : World) (hg : Grows w w') (h : ColBox W v w) : ColBox W v w' := by
  obtain ⟨n, h1, h2, p, q, s, t, h3⟩ := h
  exact ⟨n, h1, h2, p, q, s, t, h3.grows hg⟩

set_option maxHeartbeats 2000000 in
theorem span_bad (r : Int) (w : World) (h : ¬ (0 ≤ r ∧ r ≤ 5)) : Calls Try.prog 35 #[.int .i64 r] w fun e w' => e = .returned (.tuple #[.int .i64 0, .int .i64 0, .bool false]) ∧ w = w' := by
  have b0 : (r == 0) = false := by simp; omega
  have b1 : (r == 1) = false := by simp; omega
  have b2 : (r == 2) = false := by simp; omega
  have b3 : (r == 3) = false := by simp; omega
  have b4 : (r == 4) = false := by simp; omega
  have b5 : (r == 5) = false := by simp; omega
  clear h
  go_enter Try.func35, Try.ntmps35
  go_wp2_with fail
  go_ret3
  exact ⟨rfl, rfl⟩

set_option maxHeartbeats 2000000 in
theorem spans_bad (r : Int) (w : World) (h : ¬ (0 ≤ r ∧ r ≤ 5)) : Calls Try.prog 19 #[.int .i64 r] w fun e w' => e = .returned (.tuple #[.int .i64 0, .int .i64 0]) ∧ w = w' := by
  have HS := Lib.hid (fun W => span_bad r W h)
  clear h
  go_enter Try.func19, Try.ntmps19
  go_wp2_with fail
  refine (HS.out _).mono ?_
  rintro e w' ⟨rfl, rfl⟩
  go_wp2_with fail
  go_ret2
  exact ⟨rfl, rfl⟩

theorem spans_some (r : Int) : ∃ p q : Int, ∀ w, Calls Try.prog 19 #[.int .i64 r] w fun e w' => e = .returned (.tuple #[.int .i64 p, .int .i64 q]) ∧ w = w' := by
  by_cases h : 0 ≤ r ∧ r ≤ 5
  · exact ⟨_, _, fun w => spans_any r w h.1 h.2⟩
  · exact ⟨_, _, fun w => spans_bad r w h⟩

/-- Pixels of one block have one chroma sample. -/
theorem chroma_same {a b c d r x y u v : Int} (bs : List Int) (h1 : Inn a b c d x y) (h2 : Inn a b c d u v) (ex : x / hsp r = u / hsp r) (ey : y / vsp r = v / vsp r) : colC a b c d r bs u v = colC a b c d r bs x y := by
  rw [colC_in h1, colC_in h2]
  unfold cAt
  rw [ex, ey]

set_option maxRecDepth 20000 in
set_option maxHeartbeats 4000000 in
theorem walk (a b c d r : Int) (vy : Value) (ys : List Int) (vb : Value) (bs : List Int) (vr : Value) (rs : List Int) (x y u v : Int) (w : World) (ha : I64 a) (hb : I64 b) (hc : I64 c) (hd : I64 d) (hr : I64 r) (h1 : RdI w vy ys) (h2 : RdI w vb bs) (h3 : RdI w vr rs) (hx : I64 x) (hy : I64 y) (hu : I64 u) (hv : I64 v) :
    Calls Try.prog 7 #[box4 a b c d, .int .i64 r, vy, vb, vr, .int .i64 x, .int .i64 y, .int .i64 u, .int .i64 v] w fun e w' => e = .returned (.bool true) ∧ Grows w w' := by
  have H1 := Lib.hid h1
  have H2 := Lib.hid h2
  have H3 := Lib.hid h3
  obtain ⟨A1, c1, rfl, _⟩ := h1
  obtain ⟨A2, c2, rfl, _⟩ := h2
  obtain ⟨A3, c3, rfl, _⟩ := h3
  go_enter Try.func7, Try.ntmps7
  go_wp2_with fail
  refine (asRect_any _ _ _ _ _).mono ?_
  rintro e w1 ⟨rfl, hg1⟩
  have q0 : w1.cell? ⟨w.heap.size, 0, none⟩ = some (.int .i64 a) := hg1.cell_some (by simp)
  have q1 : w1.cell? ⟨w.heap.size, 1, none⟩ = some (.int .i64 b) := hg1.cell_some (by simp)
  have q2 : w1.cell? ⟨w.heap.size, 2, none⟩ = some (.int .i64 c) := hg1.cell_some (by simp)
  have q3 : w1.cell? ⟨w.heap.size, 3, none⟩ = some (.int .i64 d) := hg1.cell_some (by simp)
  have HG : Hid (Grows w w1) := ((Grows.rfl' w).alloc' _).step hg1
  clear hg1
  go_upto_region 2 with fail
  have HB : Hid (BoxAt (w1.alloc (.cells #[.int .i64 a, .int .i64 b, .int .i64 c, .int .i64 d] 25)) w1.heap.size a b c d) := ⟨cell_top rfl rfl, cell_top rfl rfl, cell_top rfl rfl, cell_top rfl rfl⟩
  have hgw : Grows w1 (w1.alloc (.cells #[.int .i64 a, .int .i64 b, .int .i64 c, .int .i64 d] 25)) := (Grows.rfl' _).alloc' _
  have HR0 : Hid (BoxAt (w1.alloc (.cells #[.int .i64 a, .int .i64 b, .int .i64 c, .int .i64 d] 25)) w.heap.size a b c d) := BoxAt.grows ⟨q0, q1, q2, q3⟩ hgw
  replace HG := Lib.hid (HG.out.step hgw)
  clear hgw q0 q1 q2 q3
  generalize w1.alloc (.cells #[.int .i64 a, .int .i64 b, .int .i64 c, .int .i64 d] 25) = w2 at *
  generalize w1.heap.size = bx at *
  obtain ⟨q0, q1, q2, q3⟩ := HR0.out
  obtain ⟨s0, s1, s2, s3⟩ := HB.out
  clear q0 q1 q2 q3 s0 s1 s2 s3
  by_cases hp : PlainY a b c d r
  · have HP := Lib.hid hp
    by_cases hin : Inn a b c d x y
    · have HIN := Lib.hid hin
      by_cases hin2 : Inn a b c d u v
      · have HIN2 := Lib.hid hin2
        have h4 : ∀ s, s = 1 ∨ s = 2 → s = 1 ∨ s = 2 ∨ s = (4 : Int) := fun s h => by omega
        have hh := hsp_or r
        have hw := h4 _ (vsp_or r)
        have hch := fun zs => chroma_same (a := a) (b := b) (c := c) (d := d) (r := r) (x := x) (y := y) (u := u) (v := v) zs hin hin2
        obtain ⟨⟨⟨f1, f2⟩, ⟨f3, f4⟩, _, ⟨f7, f8⟩⟩, ⟨g1, g2⟩, ⟨g3, g4⟩, ⟨r0, r5⟩⟩ := hp
        obtain ⟨i1, i2, i3, i4⟩ := hin
        obtain ⟨j1, j2, j3, j4⟩ := hin2
        have HSP : Hid (∀ W, Calls Try.prog 19 #[.int .i64 r] W fun e w' => e = .returned (.tuple #[.int .i64 (hsp r), .int .i64 (vsp r)]) ∧ W = w') := fun W => spans_any r W r0 r5
        obtain ⟨d1, d1a, d1b⟩ := divs (x := x) hh (by omega)
        obtain ⟨d2, d2a, d2b⟩ := divs (x := u) hh (by omega)
        obtain ⟨d3, d3a, d3b⟩ := divs (x := y) hw (by omega)
        obtain ⟨d4, d4a, d4b⟩ := divs (x := v) hw (by omega)
        have nh : ¬ hsp r = 0 := by omega
        have nw : ¬ vsp r = 0 := by omega
        have HRD : Hid (∀ W, Grows w W → Calls Try.prog 11 #[box4 a b c d, .int .i64 r, (.slice A1 ys.length c1), (.slice A2 bs.length c2), (.slice A3 rs.length c3), .int .i64 x, .int .i64 y] W fun e w' => e = .returned ((.agg #[.int .i64 (colY a b c d ys x y), .int .i64 (colC a b c d r bs x y), .int .i64 (colC a b c d r rs x y), .int .i64 0])) ∧ Grows W w') := fun W hW => readY_any a b c d r x y _ _ _ ys bs rs W HP.out (H1.out.grows hW) (H2.out.grows hW) (H3.out.grows hW)
        have HRE : Hid (∀ W, Grows w W → Calls Try.prog 11 #[box4 a b c d, .int .i64 r, (.slice A1 ys.length c1), (.slice A2 bs.length c2), (.slice A3 rs.length c3), .int .i64 u, .int .i64 v] W fun e w' => e = .returned ((.agg #[.int .i64 (colY a b c d ys u v), .int .i64 (colC a b c d r bs u v), .int .i64 (colC a b c d r rs u v), .int .i64 0])) ∧ Grows W w') := fun W hW => readY_any a b c d r u v _ _ _ ys bs rs W HP.out (H1.out.grows hW) (H2.out.grows hW) (H3.out.grows hW)
        by_cases ex : x / hsp r = u / hsp r
        · by_cases ey : y / vsp r = v / vsp r
          · have hz1 := hch bs ex ey
            have hz2 := hch rs ex ey
            rw [hz1, hz2] at HRE
            clear hz1 hz2 hch h4 hh hw
            generalize colY a b c d ys x y = k0 at *
            generalize colY a b c d ys u v = k0' at *
            generalize colC a b c d r bs x y = k1 at *
            generalize colC a b c d r rs x y = k2 at *
            generalize hsp r = h at *
            generalize vsp r = q at *
            generalize x / h = X at *
            generalize u / h = U at *
            generalize y / q = Y at *
            generalize v / q = V at *
            subst ex ey
            have e1 : (X != X) = false := by simp
            have e2 : (Y != Y) = false := by simp
            go_wp2_with fail
            refine (HSP.out _).mono ?_
            rintro e w3 ⟨rfl, rfl⟩
            go_upto_region 3 with fail
            apply wp_region_lex_lit 36 (by kernel_rfl) (by kernel_rfl)
            iterate 9
              apply lex_pin
              · intro wq hgq hdq Kq hKq
                obtain ⟨s0, s1, s2, s3⟩ := HB.out.grows ((Grows.rfl' _).drew'.step hgq)
                obtain ⟨q0, q1, q2, q3⟩ := HR0.out.grows ((Grows.rfl' _).drew'.step hgq)
                go_wp2_with ((first | (go_at_call 9; refine (plainY_yes _ _ _ _ _ _ HP.out).mono ?_) | (go_at_call 10; refine (has_yes _ _ _ _ _ _ _ HIN.out).mono ?_)); rintro e wq' ⟨rfl, hgq'⟩)
                first | exact hKq _ (Grows.rfl' _) | exact hKq _ hgq'
              · kernel_rfl
            iterate 27
              apply lex_pin
              · intro wq hgq hdq Kq hKq
                obtain ⟨s0, s1, s2, s3⟩ := HB.out.grows ((Grows.rfl' _).drew'.step hgq)
                obtain ⟨q0, q1, q2, q3⟩ := HR0.out.grows ((Grows.rfl' _).drew'.step hgq)
                go_wp2_with ((go_at_call 10; refine (has_yes _ _ _ _ _ _ _ HIN2.out).mono ?_); rintro e wq' ⟨rfl, hgq'⟩)
                first | exact hKq _ (Grows.rfl' _) | exact hKq _ hgq'
              · kernel_rfl
            refine lex_end ?_
            intro w4 hg4 _
            have HG4 : Hid (Grows w2 w4) := (Grows.rfl' _).drew'.step hg4
            clear hg4
            replace HB := Lib.hid (HB.out.grows HG4.out)
            replace HG := Lib.hid (HG.out.step HG4.out)
            clear HR0 HG4
            go_upto_region 5 with fail
            apply wp_region_lex_lit 18 (by kernel_rfl) (by kernel_rfl)
            iterate 8
              apply lex_pin
              · intro wq hgq hdq Kq hKq
                obtain ⟨s0, s1, s2, s3⟩ := HB.out.grows ((Grows.rfl' _).drew'.step hgq)
                go_wp2_with ((go_at_call 11; refine (HRD.out _ (HG.out.drew'.step hgq)).mono ?_); rintro e wq' ⟨rfl, hgq'⟩)
                first | exact hKq _ (Grows.rfl' _) | exact hKq _ hgq'
              · kernel_rfl
            iterate 8
              apply lex_pin
              · intro wq hgq hdq Kq hKq
                obtain ⟨s0, s1, s2, s3⟩ := HB.out.grows ((Grows.rfl' _).drew'.step hgq)
                go_wp2_with ((go_at_call 11; refine (HRE.out _ (HG.out.drew'.step hgq)).mono ?_); rintro e wq' ⟨rfl, hgq'⟩)
                first | exact hKq _ (Grows.rfl' _) | exact hKq _ hgq'
              · kernel_rfl
            apply lex_any (ColBox w4) ColBox.keep
            · intro wq hgq hdq Kq hKq
              have hsz4 : w4.heap.size ≤ wq.heap.size := hgq.size
              go_wp2
              exact hKq _ _ ((Grows.rfl' _).alloc' _) ⟨wq.heap.size, rfl, hsz4, _, _, _, _, heap_alloc_new _ _⟩
            intro vx
            simp only [Act.put, List.setIfInBounds_toArray, List.set_cons_succ, List.set_cons_zero]
            apply lex_any (ColBox w4) ColBox.keep
            · intro wq hgq hdq Kq hKq
              have hsz4 : w4.heap.size ≤ wq.heap.size := hgq.size
              go_wp2
              exact hKq _ _ ((Grows.rfl' _).alloc' _) ⟨wq.heap.size, rfl, hsz4, _, _, _, _, heap_alloc_new _ _⟩
            intro vz
            simp only [Act.put, List.setIfInBounds_toArray, List.set_cons_succ, List.set_cons_zero]
            refine lex_end ?_
            intro w5 hg5 hd5
            obtain ⟨n1, rfl, hn1, p1, p2, p3, p4, b1⟩ := hd5 16 _ rfl
            obtain ⟨n2, rfl, hn2, z1, z2, z3, z4, b2⟩ := hd5 17 _ rfl
            clear hd5
            have HC1 : Hid (((((w5.setCell ⟨n1, 0, none⟩ (.int .i64 k0)).setCell ⟨n1, 1, none⟩ (.int .i64 k1)).setCell ⟨n1, 2, none⟩ (.int .i64 k2)).setCell ⟨n1, 3, none⟩ (.int .i64 0)) = put4 w5 n1 k0 k1 k2 0) := rfl
            obtain ⟨p1', p2', p3', p4', b2'⟩ := put4_held (m := n1) b2 k0 k1 k2 0
            have b1' := put4_same b1 k0 k1 k2 0
            have b2'' := put4_same b2' k0' k1 k2 0
            obtain ⟨m1, m4, b1''⟩ := put4_chroma (m := n2) b1' k0' 0
            have HG6 : Hid (Grows w4 (put4 (put4 w5 n1 k0 k1 k2 0) n2 k0' k1 k2 0)) := put4_grows (put4_grows ((Grows.rfl' _).drew'.step hg5) hn1 _ _ _ _) hn2 _ _ _ _
            have B1 := Lib.hid b1''
            have B2 := Lib.hid b2''
            obtain ⟨t0, t1, t2, t3⟩ := b1.cells
            have tf := b1.frozen
            have HC2 := Lib.hid (And.intro b2'.cells b2'.frozen)
            clear b1 b2 b1' b2' b1'' b2'' hg5 HC1
            apply wpList_one (w' := put4 w5 n1 k0 k1 k2 0)
            · intro Kq hKq
              go_wp2
              exact hKq
            clear t0 t1 t2 t3 tf
            generalize put4 w5 n1 k0 k1 k2 0 = w6 at *
            obtain ⟨⟨t0, t1, t2, t3⟩, tf⟩ := HC2.out
            clear HC2
            apply wpList_one (w' := put4 w6 n2 k0' k1 k2 0)
            · intro Kq hKq
              go_wp2
              exact hKq
            clear t0 t1 t2 t3 tf
            generalize put4 w6 n2 k0' k1 k2 0 = w7 at *
            go_upto_region 6 with fail
            replace HB := Lib.hid (HB.out.grows HG6.out)
            replace HG := Lib.hid (HG.out.step HG6.out)
            have z1 : (k1 == k1) = true := by simp
            have z2 : (k2 == k2) = true := by simp
            apply wp_region_lex_lit 21 (by kernel_rfl) (by kernel_rfl)
            iterate 15
              apply lex_pin
              · intro wq hgq hdq Kq hKq
                obtain ⟨s0, s1, s2, s3⟩ := HB.out.grows ((Grows.rfl' _).drew'.step hgq)
                obtain ⟨t0, t1, t2, t3⟩ := (B1.out.grows ((Grows.rfl' _).drew'.step hgq)).cells
                obtain ⟨y0, y1, y2, y3⟩ := (B2.out.grows ((Grows.rfl' _).drew'.step hgq)).cells
                go_wp2
                exact hKq _ (Grows.rfl' _)
              · kernel_rfl
            apply lex_any (HasRectP a b c d) (HasRectP.keep)
            · intro wq hgq hdq Kq hKq
              go_wp2_with fail
              refine ((implNewY_any _ _ _ _ _ _ HP.out).mono fun e w' h => NewPl.hasRect h).mono ?_
              rintro e wq' ⟨v, rfl, hgq', hh⟩
              go_wp2_with fail
              exact hKq _ _ hgq' hh
            intro vn
            simp only [Act.put, List.setIfInBounds_toArray, List.set_cons_succ, List.set_cons_zero]
            apply lex_pinv (box4 a b c d)
            · intro wq hgq hdq Kq hKq
              obtain ⟨ys', cs', r', p1', p2', p3', rfl⟩ := hdq 15 _ rfl (by kernel_rfl)
              have hfr := field_rectP
              go_wp2
              exact hKq _ (Grows.rfl' _)
            simp only [Act.put, List.setIfInBounds_toArray, List.set_cons_succ, List.set_cons_zero]
            iterate 4
              apply lex_pinv
              · intro wq hgq hdq Kq hKq
                obtain ⟨s0, s1, s2, s3⟩ := HB.out.grows ((Grows.rfl' _).drew'.step hgq)
                go_wp2
                exact hKq _ (Grows.rfl' _)
              simp only [Act.put, List.setIfInBounds_toArray, List.set_cons_succ, List.set_cons_zero]
            refine lex_end ?_
            intro w8 hg8 _
            go_wp2
            go_ret
            exact ⟨rfl, HG.out.drew'.step hg8⟩
          · clear hch h4 hh hw
            generalize hsp r = h at *
            generalize vsp r = q at *
            generalize x / h = X at *
            generalize u / h = U at *
            generalize y / q = Y at *
            generalize v / q = V at *
            subst ex
            have e1 : (X != X) = false := by simp
            have e2 : (Y != V) = true := by simp [ey]
            clear ey
            go_wp2_with fail
            refine (HSP.out _).mono ?_
            rintro e w3 ⟨rfl, rfl⟩
            go_upto_region 3 with fail
            apply wp_region_lex_lit 36 (by kernel_rfl) (by kernel_rfl)
            iterate 9
              apply lex_pin
              · intro wq hgq hdq Kq hKq
                obtain ⟨s0, s1, s2, s3⟩ := HB.out.grows ((Grows.rfl' _).drew'.step hgq)
                obtain ⟨q0, q1, q2, q3⟩ := HR0.out.grows ((Grows.rfl' _).drew'.step hgq)
                go_wp2_with ((first | (go_at_call 9; refine (plainY_yes _ _ _ _ _ _ HP.out).mono ?_) | (go_at_call 10; refine (has_yes _ _ _ _ _ _ _ HIN.out).mono ?_)); rintro e wq' ⟨rfl, hgq'⟩)
                first | exact hKq _ (Grows.rfl' _) | exact hKq _ hgq'
              · kernel_rfl
            iterate 27
              apply lex_pin
              · intro wq hgq hdq Kq hKq
                obtain ⟨s0, s1, s2, s3⟩ := HB.out.grows ((Grows.rfl' _).drew'.step hgq)
                obtain ⟨q0, q1, q2, q3⟩ := HR0.out.grows ((Grows.rfl' _).drew'.step hgq)
                go_wp2_with ((go_at_call 10; refine (has_yes _ _ _ _ _ _ _ HIN2.out).mono ?_); rintro e wq' ⟨rfl, hgq'⟩)
                first | exact hKq _ (Grows.rfl' _) | exact hKq _ hgq'
              · kernel_rfl
            refine lex_end ?_
            intro w8 hg8 _
            go_wp2_with fail
            go_ret
            exact ⟨rfl, HG.out.drew'.step hg8⟩
        · clear hch h4 hh hw
          generalize hsp r = h at *
          generalize vsp r = q at *
          generalize x / h = X at *
          generalize u / h = U at *
          generalize y / q = Y at *
          generalize v / q = V at *
          have e1 : (X != U) = true := by simp [ex]
          clear ex
          go_wp2_with fail
          refine (HSP.out _).mono ?_
          rintro e w3 ⟨rfl, rfl⟩
          go_upto_region 3 with fail
          apply wp_region_lex_lit 36 (by kernel_rfl) (by kernel_rfl)
          iterate 9
            apply lex_pin
            · intro wq hgq hdq Kq hKq
              obtain ⟨s0, s1, s2, s3⟩ := HB.out.grows ((Grows.rfl' _).drew'.step hgq)
              obtain ⟨q0, q1, q2, q3⟩ := HR0.out.grows ((Grows.rfl' _).drew'.step hgq)
              go_wp2_with ((first | (go_at_call 9; refine (plainY_yes _ _ _ _ _ _ HP.out).mono ?_) | (go_at_call 10; refine (has_yes _ _ _ _ _ _ _ HIN.out).mono ?_)); rintro e wq' ⟨rfl, hgq'⟩)
              first | exact hKq _ (Grows.rfl' _) | exact hKq _ hgq'
            · kernel_rfl
          iterate 27
            apply lex_pin
            · intro wq hgq hdq Kq hKq
              obtain ⟨s0, s1, s2, s3⟩ := HB.out.grows ((Grows.rfl' _).drew'.step hgq)
              obtain ⟨q0, q1, q2, q3⟩ := HR0.out.grows ((Grows.rfl' _).drew'.step hgq)
              go_wp2_with ((go_at_call 10; refine (has_yes _ _ _ _ _ _ _ HIN2.out).mono ?_); rintro e wq' ⟨rfl, hgq'⟩)
              first | exact hKq _ (Grows.rfl' _) | exact hKq _ hgq'
            · kernel_rfl
          refine lex_end ?_
          intro w8 hg8 _
          go_wp2_with fail
          go_ret
          exact ⟨rfl, HG.out.drew'.step hg8⟩
      · have HIN2 := Lib.hid hin2
        clear hin2 hin hp
        obtain ⟨h, q, hsp⟩ := spans_some r
        have HSP := Lib.hid hsp
        clear hsp
        go_wp2_with fail
        refine (HSP.out _).mono ?_
        rintro e w3 ⟨rfl, rfl⟩
        go_upto_region 3 with fail
        apply wp_region_lex_lit 36 (by kernel_rfl) (by kernel_rfl)
        iterate 9
          apply lex_pin
          · intro wq hgq hdq Kq hKq
            obtain ⟨s0, s1, s2, s3⟩ := HB.out.grows ((Grows.rfl' _).drew'.step hgq)
            obtain ⟨q0, q1, q2, q3⟩ := HR0.out.grows ((Grows.rfl' _).drew'.step hgq)
            go_wp2_with ((first | (go_at_call 9; refine (plainY_yes _ _ _ _ _ _ HP.out).mono ?_) | (go_at_call 10; refine (has_yes _ _ _ _ _ _ _ HIN.out).mono ?_)); rintro e wq' ⟨rfl, hgq'⟩)
            first | exact hKq _ (Grows.rfl' _) | exact hKq _ hgq'
          · kernel_rfl
        iterate 27
          apply lex_pin
          · intro wq hgq hdq Kq hKq
            obtain ⟨s0, s1, s2, s3⟩ := HB.out.grows ((Grows.rfl' _).drew'.step hgq)
            obtain ⟨q0, q1, q2, q3⟩ := HR0.out.grows ((Grows.rfl' _).drew'.step hgq)
            go_wp2_with ((go_at_call 10; refine (has_no _ _ _ _ _ _ _ HIN2.out).mono ?_); rintro e wq' ⟨rfl, hgq'⟩)
            first | exact hKq _ (Grows.rfl' _) | exact hKq _ hgq'
          · kernel_rfl
        refine lex_end ?_
        intro w8 hg8 _
        go_wp2_with fail
        go_ret
        exact ⟨rfl, HG.out.drew'.step hg8⟩
    · have HIN := Lib.hid hin
      clear hin hp
      obtain ⟨h, q, hsp⟩ := spans_some r
      have HSP := Lib.hid hsp
      clear hsp
      go_wp2_with fail
      refine (HSP.out _).mono ?_
      rintro e w3 ⟨rfl, rfl⟩
      go_upto_region 3 with fail
      apply wp_region_lex_lit 36 (by kernel_rfl) (by kernel_rfl)
      iterate 36
        apply lex_pin
        · intro wq hgq hdq Kq hKq
          obtain ⟨s0, s1, s2, s3⟩ := HB.out.grows ((Grows.rfl' _).drew'.step hgq)
          obtain ⟨q0, q1, q2, q3⟩ := HR0.out.grows ((Grows.rfl' _).drew'.step hgq)
          go_wp2_with ((first | (go_at_call 9; refine (plainY_yes _ _ _ _ _ _ HP.out).mono ?_) | (go_at_call 10; refine (has_no _ _ _ _ _ _ _ HIN.out).mono ?_)); rintro e wq' ⟨rfl, hgq'⟩)
          first | exact hKq _ (Grows.rfl' _) | exact hKq _ hgq'
        · kernel_rfl
      refine lex_end ?_
      intro w8 hg8 _
      go_wp2_with fail
      go_ret
      exact ⟨rfl, HG.out.drew'.step hg8⟩
  · have HP := Lib.hid hp
    clear hp
    obtain ⟨h, q, hsp⟩ := spans_some r
    have HSP := Lib.hid hsp
    clear hsp
    go_wp2_with fail
    refine (HSP.out _).mono ?_
    rintro e w3 ⟨rfl, rfl⟩
    go_upto_region 3 with fail
    apply wp_region_lex_lit 36 (by kernel_rfl) (by kernel_rfl)
    iterate 36
      apply lex_pin
      · intro wq hgq hdq Kq hKq
        obtain ⟨s0, s1, s2, s3⟩ := HB.out.grows ((Grows.rfl' _).drew'.step hgq)
        obtain ⟨q0, q1, q2, q3⟩ := HR0.out.grows ((Grows.rfl' _).drew'.step hgq)
        go_wp2_with ((go_at_call 9; refine (plainY_no _ _ _ _ _ _ HP.out ha hb).mono ?_); rintro e wq' ⟨rfl, hgq'⟩)
        first | exact hKq _ (Grows.rfl' _) | exact hKq _ hgq'
      · kernel_rfl
    refine lex_end ?_
    intro w8 hg8 _
    go_wp2_with fail
    go_ret
    exact ⟨rfl, HG.out.drew'.step hg8⟩

set_option linter.unusedVariables false
set_option maxRecDepth 100000 in
theorem lifted (os : Os) (started : os.Started) (H : Type) (enc : TypeId × Value → H) :
    ReturnsInHanded {} Try.checked os 7 .any (Rows.fnYCbCrBlocksSpec.pre6 enc Try.prog Try.f7 Rows.fnYCbCrBlocksRow.domain false) (Rows.fnYCbCrBlocksSpec.post enc Try.prog Try.f7 false true false false) := by
  refine returnsInHanded_of_change_sized (C := Try.checked) own started (by kernel_rfl) Try.func7
    (ChangeSpec.witness6 (enc := enc) (C := Try.checked) false ⟨#[], #[.agg #[.int .i64 0, .int .i64 0, .int .i64 0, .int .i64 0], .int .i64 0, .slice none 0 0, .slice none 0 0, .slice none 0 0, .int .i64 0, .int .i64 0, .int .i64 0, .int .i64 0], []⟩ 8 (by kernel_rfl) (by kernel_rfl) (by kernel_rfl) (by kernel_rfl)) ?_
  intro W base args ds gs before hval0 hW hcnd hsz0 _
  have hval : ∀ (j : Nat) t v, Try.f7.params[j]? = some t → args[j]? = some v → Value.okWide Try.prog W .any base t v := hval0
  have hsz : (DataW.weightsEach Try.prog (Try.f7.params.toList ++ Rows.fnYCbCrBlocksSpec.plain.varTypes Try.prog) (ds ++ gs)).all (· ≤ reachBytes) = true := hsz0
  clear hsz0
  have hW' := hW
  obtain ⟨p, q, hA0, hV, rfl, hfz, hnd⟩ := hW
  have hA : DataW.TrodAll enc Try.prog W 0 (fun _ => true) true Try.f7.params.toList args.toList ds p := hA0
  rw [Try.params7] at hA hval hsz
  obtain ⟨v0, vs0, d0, ds0, p0, q0, hargs, rfl, rfl, h0, r0⟩ := trodAll_cons hA
  obtain ⟨v1, vs1, d1, ds1, p1, q1, rfl, rfl, rfl, h1, r1⟩ := trodAll_cons r0
  obtain ⟨v2, vs2, d2, ds2, p2, q2, rfl, rfl, rfl, h2, r2⟩ := trodAll_cons r1
  obtain ⟨v3, vs3, d3, ds3, p3, q3, rfl, rfl, rfl, h3, r3⟩ := trodAll_cons r2
  obtain ⟨v4, vs4, d4, ds4, p4, q4, rfl, rfl, rfl, h4, r4⟩ := trodAll_cons r3
  obtain ⟨v5, vs5, d5, ds5, p5, q5, rfl, rfl, rfl, h5, r5⟩ := trodAll_cons r4
  obtain ⟨v6, vs6, d6, ds6, p6, q6, rfl, rfl, rfl, h6, r6⟩ := trodAll_cons r5
  obtain ⟨v7, vs7, d7, ds7, p7, q7, rfl, rfl, rfl, h7, r7⟩ := trodAll_cons r6
  obtain ⟨v8, vs8, d8, ds8, p8, q8, rfl, rfl, rfl, h8, r8⟩ := trodAll_cons r7
  obtain ⟨rfl, rfl, rfl⟩ := trodAll_nil r8
  obtain rfl : args = #[v0, v1, v2, v3, v4, v5, v6, v7, v8] := by cases args; simp_all
  obtain ⟨rfl, rfl⟩ := trodVars_none hV
  have k0 := h0
  have lt0 : ∀ x ∈ p0, x.block < W.heap.size := by obtain ⟨m, hm⟩ := k0; exact DataW.trod_lt m _ _ _ hm
  have k1 := h1
  have lt1 : ∀ x ∈ p1, x.block < W.heap.size := by obtain ⟨m, hm⟩ := k1; exact DataW.trod_lt m _ _ _ hm
  have k2 := h2
  have lt2 : ∀ x ∈ p2, x.block < W.heap.size := by obtain ⟨m, hm⟩ := k2; exact DataW.trod_lt m _ _ _ hm
  have k3 := h3
  have lt3 : ∀ x ∈ p3, x.block < W.heap.size := by obtain ⟨m, hm⟩ := k3; exact DataW.trod_lt m _ _ _ hm
  have k4 := h4
  have lt4 : ∀ x ∈ p4, x.block < W.heap.size := by obtain ⟨m, hm⟩ := k4; exact DataW.trod_lt m _ _ _ hm
  have k5 := h5
  have lt5 : ∀ x ∈ p5, x.block < W.heap.size := by obtain ⟨m, hm⟩ := k5; exact DataW.trod_lt m _ _ _ hm
  have k6 := h6
  have lt6 : ∀ x ∈ p6, x.block < W.heap.size := by obtain ⟨m, hm⟩ := k6; exact DataW.trod_lt m _ _ _ hm
  have k7 := h7
  have lt7 : ∀ x ∈ p7, x.block < W.heap.size := by obtain ⟨m, hm⟩ := k7; exact DataW.trod_lt m _ _ _ hm
  have k8 := h8
  have lt8 : ∀ x ∈ p8, x.block < W.heap.size := by obtain ⟨m, hm⟩ := k8; exact DataW.trod_lt m _ _ _ hm
  obtain ⟨s0a, s0b, s0c, s0d, rfl, ⟨b0a, b0b, b0c, b0d⟩⟩ := open_four Try.underlying23 (by kernel_rfl) cells23 (hval 0 23 v0 rfl rfl) h0
  obtain ⟨x1, rfl, he1, _, w1⟩ := open_int Try.underlying3 (hval 1 3 v1 rfl rfl) h1
  obtain ⟨z2, hz2⟩ := open_list (hval 2 24 v2 rfl rfl) h2 (fun el sp hd => by subst hd; exact sized_slice hsz (j := 2) (t := 24) (e := 3) rfl rfl Try.underlying24)
  obtain ⟨z3, hz3⟩ := open_list (hval 3 24 v3 rfl rfl) h3 (fun el sp hd => by subst hd; exact sized_slice hsz (j := 3) (t := 24) (e := 3) rfl rfl Try.underlying24)
  obtain ⟨z4, hz4⟩ := open_list (hval 4 24 v4 rfl rfl) h4 (fun el sp hd => by subst hd; exact sized_slice hsz (j := 4) (t := 24) (e := 3) rfl rfl Try.underlying24)
  obtain ⟨x5, rfl, he5, _, w5⟩ := open_int Try.underlying3 (hval 5 3 v5 rfl rfl) h5
  obtain ⟨x6, rfl, he6, _, w6⟩ := open_int Try.underlying3 (hval 6 3 v6 rfl rfl) h6
  obtain ⟨x7, rfl, he7, _, w7⟩ := open_int Try.underlying3 (hval 7 3 v7 rfl rfl) h7
  obtain ⟨x8, rfl, he8, _, w8⟩ := open_int Try.underlying3 (hval 8 3 v8 rfl rfl) h8
  refine (walk s0a s0b s0c s0d x1 v2 z2 v3 z3 v4 z4 x5 x6 x7 x8 W b0a b0b b0c b0d (bounds_i64 w1) hz2 hz3 hz4 (bounds_i64 w5) (bounds_i64 w6) (bounds_i64 w7) (bounds_i64 w8)).mono fun e W' ⟨he, bel⟩ => ?_
  subst he
  exact ⟨_, rfl, _, _, _, [], _, [], hW', trodAll_mk1 (shut_bool Try.underlying4 _), (trodAll_cons_mk (Below.trod laidOut (by kernel_rfl) (of_decide_eq_true (by kernel_rfl)) k0 bel lt0) (trodAll_cons_mk (Below.trod laidOut (by kernel_rfl) (of_decide_eq_true (by kernel_rfl)) k1 bel lt1) (trodAll_cons_mk (Below.trod laidOut (by kernel_rfl) (of_decide_eq_true (by kernel_rfl)) k2 bel lt2) (trodAll_cons_mk (Below.trod laidOut (by kernel_rfl) (of_decide_eq_true (by kernel_rfl)) k3 bel lt3) (trodAll_cons_mk (Below.trod laidOut (by kernel_rfl) (of_decide_eq_true (by kernel_rfl)) k4 bel lt4) (trodAll_cons_mk (Below.trod laidOut (by kernel_rfl) (of_decide_eq_true (by kernel_rfl)) k5 bel lt5) (trodAll_cons_mk (Below.trod laidOut (by kernel_rfl) (of_decide_eq_true (by kernel_rfl)) k6 bel lt6) (trodAll_cons_mk (Below.trod laidOut (by kernel_rfl) (of_decide_eq_true (by kernel_rfl)) k7 bel lt7) (trodAll_cons_mk (Below.trod laidOut (by kernel_rfl) (of_decide_eq_true (by kernel_rfl)) k8 bel lt8) trodAll_mk0))))))))), rfl, bel.frame _, fun h => by cases h⟩

theorem proved : Rows.FnYCbCrBlocksSaid :=
  OpenClaim.holds_of_wide 7 Try.f7 rfl rfl rfl rfl rfl rfl rfl ⟨rfl, rfl, rfl, rfl, rfl⟩ rfl rfl rfl rfl rfl (by kernel_rfl) Try.func7 (by kernel_rfl)
    (of_decide_eq_true (by kernel_rfl)) (by unfold Func.isWrapper; first | (rw [if_pos (by decide +kernel)]; kernel_rfl) | (rw [if_neg (by decide +kernel)]; exact ⟨rfl, rfl⟩))
    (fun os started H enc _ => lifted os started H enc)
#print axioms proved
end Go.Proofs.Ytcohenlemddpfaa.lawYCbCrBlocks

/-
  Contracts of the thin package's planes, YCbCrNew, YCbCrYOffset, YCbCrCOffset, YCbCrOpaque and of the reference's across, YCbCrCOffset. Conditions stand in each theorem.
-/
import Derived.Test.YtcohenlemddpfaaYOff
namespace Go.Proofs.Ytcohenlemddpfaa
open Go.RowKit
set_option linter.unusedVariables false

set_option maxHeartbeats 2000000 in
theorem implYOff_any (a b c d r x y : Int) (w : World) (h : PlainY a b c d r) (hin : Inn a b c d x y) :
    Calls Try.prog 12 #[box4 a b c d, .int .i64 r, .int .i64 x, .int .i64 y] w fun e w' => e = .returned (.int .i64 (yAt a b c x y)) ∧ Grows w w' := by
  have HH := Lib.hid h
  have HE := Lib.hid (h.yAt_eq hin).1
  obtain ⟨⟨_, _, _, ⟨f7, f8⟩⟩, ⟨p1, p2⟩, ⟨p3, p4⟩, _⟩ := h
  obtain ⟨i1, i2, i3, i4⟩ := hin
  go_enter Try.func12, Try.ntmps12
  go_wp2_with fail
  refine (mkY_any a b c d r _ _ _ [] [] [] _ HH.out Rd.nil Rd.nil Rd.nil).mono ?_
  rintro e w1 ⟨ib, pb, rfl, _, _, him, _, hg1⟩
  have HI := Lib.hid him
  have HG : Hid (Grows w w1) := ((Grows.rfl' w).alloc' _).step hg1
  clear him hg1
  go_wp2_with fail
  refine (yOff_in ib _ _ _ _ _ _ _ a b c d x y _ HI.out (by omega) (by omega) (by omega) (by omega) (by omega) (by omega) HE.out).mono ?_
  rintro e w2 ⟨rfl, hg2⟩
  go_wp2_with fail
  go_ret
  exact ⟨rfl, HG.out.step hg2⟩

set_option maxHeartbeats 2000000 in
theorem implCOff_any (a b c d r x y : Int) (w : World) (h : PlainY a b c d r) (hin : Inn a b c d x y) :
    Calls Try.prog 13 #[box4 a b c d, .int .i64 r, .int .i64 x, .int .i64 y] w fun e w' => e = .returned (.int .i64 (cAt a b c r x y)) ∧ Grows w w' := by
  have HH := Lib.hid h
  have HE := Lib.hid (h.cAt_eq hin).1
  have hcw := h.cw
  obtain ⟨⟨⟨f1, f2⟩, ⟨f3, f4⟩, _, ⟨f7, f8⟩⟩, ⟨p1, p2⟩, ⟨p3, p4⟩, ⟨r0, r5⟩⟩ := h
  obtain ⟨i1, i2, i3, i4⟩ := hin
  go_enter Try.func13, Try.ntmps13
  go_wp2_with fail
  refine (mkY_any a b c d r _ _ _ [] [] [] _ HH.out Rd.nil Rd.nil Rd.nil).mono ?_
  rintro e w1 ⟨ib, pb, rfl, _, _, him, _, hg1⟩
  have HI := Lib.hid him
  have HG : Hid (Grows w w1) := ((Grows.rfl' w).alloc' _).step hg1
  clear him hg1
  go_wp2_with fail
  refine (cOff_in ib _ _ _ _ _ _ r a b c d x y _ HI.out r0 r5 (by omega) (by omega) (by omega) (by omega) (by omega) (by omega) (by omega) (by omega) (by omega) (by omega) HE.out).mono ?_
  rintro e w2 ⟨rfl, hg2⟩
  go_wp2_with fail
  go_ret
  exact ⟨rfl, HG.out.step hg2⟩


/-! ### Planes -/
/-- The result: bounds, strides, ratio, and three rows of new ints. -/
def IsPl (a b c d ys cs r : Int) (L1 L2 L3 : List Int) (W : World) (v : Value) (w : World) : Prop :=
  ∃ p1 p2 p3, v = .agg #[.int .i64 a, .int .i64 b, .int .i64 c, .int .i64 d, .int .i64 ys, .int .i64 cs, .int .i64 r, p1, p2, p3] ∧ OwnI W w p1 L1 ∧ OwnI W w p2 L2 ∧ OwnI W w p3 L3
theorem IsPl.keep {a b c d ys cs r : Int} {L1 L2 L3 : List Int} {W : World} (v : Value) (w w' : World) (hg : Grows w w') (h : IsPl a b c d ys cs r L1 L2 L3 W v w) : IsPl a b c d ys cs r L1 L2 L3 W v w' := by
  obtain ⟨p1, p2, p3, h0, h1, h2, h3⟩ := h
  exact ⟨p1, p2, p3, h0, h1.later hg, h2.later hg, h3.later hg⟩
def NewPl (a b c d ys cs r : Int) (L1 L2 L3 : List Int) (W : World) (e : Ending) (w' : World) : Prop := ∃ v, e = .returned v ∧ IsPl a b c d ys cs r L1 L2 L3 W v w'

set_option maxRecDepth 20000 in
set_option maxHeartbeats 4000000 in
theorem planes_any (ib : Nat) (vy vb vr : Value) (ys cs r a b c d : Int) (L1 L2 L3 : List Int) (w : World) (hI : ImgY w ib vy vb vr ys cs r a b c d) (h1 : RdB w vy L1) (h2 : RdB w vb L2) (h3 : RdB w vr L3) :
    Calls Try.prog 29 #[.pointer (some ⟨ib, 0, none⟩)] w (NewPl a b c d ys cs r L1 L2 L3 w) := by
  have HI := Lib.hid hI
  have H1 := Lib.hid h1
  have H2 := Lib.hid h2
  have H3 := Lib.hid h3
  obtain ⟨A1, c1, rfl, _⟩ := h1
  obtain ⟨A2, c2, rfl, _⟩ := h2
  obtain ⟨A3, c3, rfl, _⟩ := h3
  clear hI
  go_enter Try.func29, Try.ntmps29
  go_wp2_with fail
  have hgw : Grows w (w.alloc (.cells #[.int .i64 0, .int .i64 0, .int .i64 0, .int .i64 0, .int .i64 0, .int .i64 0, .int .i64 0, .slice none 0 0, .slice none 0 0, .slice none 0 0] 35)) := (Grows.rfl' w).alloc' _
  have HX : Hid ((w.alloc (.cells #[.int .i64 0, .int .i64 0, .int .i64 0, .int .i64 0, .int .i64 0, .int .i64 0, .int .i64 0, .slice none 0 0, .slice none 0 0, .slice none 0 0] 35)).heap[w.heap.size]? = some (.cells #[.int .i64 0, .int .i64 0, .int .i64 0, .int .i64 0, .int .i64 0, .int .i64 0, .int .i64 0, .slice none 0 0, .slice none 0 0, .slice none 0 0] 35 (0, 0))) := heap_alloc_new _ _
  have hsz : w.heap.size < (w.alloc (.cells #[.int .i64 0, .int .i64 0, .int .i64 0, .int .i64 0, .int .i64 0, .int .i64 0, .int .i64 0, .slice none 0 0, .slice none 0 0, .slice none 0 0] 35)).heap.size := by simp
  have HG := Lib.hid hgw
  replace HI := Lib.hid (HI.out.grows hgw)
  replace H1 := Lib.hid (H1.out.grows hgw)
  replace H2 := Lib.hid (H2.out.grows hgw)
  replace H3 := Lib.hid (H3.out.grows hgw)
  clear hgw
  generalize w.alloc (.cells #[.int .i64 0, .int .i64 0, .int .i64 0, .int .i64 0, .int .i64 0, .int .i64 0, .int .i64 0, .slice none 0 0, .slice none 0 0, .slice none 0 0] 35) = w1 at *
  apply wp_region_lex_lit 33 (by kernel_rfl) (by kernel_rfl)
  iterate 21
    apply lex_pin
    · intro wq hgq hdq Kq hKq
      obtain ⟨q0, q1, q2, q3, q4, q5, q6, q7, q8, q9⟩ := (HI.out.grows ((Grows.rfl' _).drew'.step hgq)).cells
      go_wp2_with ((go_at_call 41; refine (plain_any _ _ _ _ _).mono ?_); rintro e wq' ⟨rfl, hgq'⟩)
      first | exact hKq _ (Grows.rfl' _) | exact hKq _ hgq'
    · kernel_rfl
  apply lex_any (fun v wx => OwnI w1 wx v L1) ((fun v x y hg h => h.later hg))
  · intro wq hgq hdq Kq hKq
    go_wp2_with fail
    refine (numbers_any _ L1 _ (H1.out.grows ((Grows.rfl' _).drew'.step hgq))).mono ?_
    rintro e wq' ⟨v', rfl, ho⟩
    go_wp2_with fail
    exact hKq _ _ ho.2 (ho.base ((Grows.rfl' _).drew'.step hgq))
  intro va
  simp only [Act.put, List.setIfInBounds_toArray, List.set_cons_succ, List.set_cons_zero]
  iterate 4
    apply lex_pinv
    · intro wq hgq hdq Kq hKq
      obtain ⟨q0, q1, q2, q3, q4, q5, q6, q7, q8, q9⟩ := (HI.out.grows ((Grows.rfl' _).drew'.step hgq)).cells
      go_wp2
      exact hKq _ (Grows.rfl' _)
    simp only [Act.put, List.setIfInBounds_toArray, List.set_cons_succ, List.set_cons_zero]
  apply lex_any (fun v wx => OwnI w1 wx v L2) ((fun v x y hg h => h.later hg))
  · intro wq hgq hdq Kq hKq
    go_wp2_with fail
    refine (numbers_any _ L2 _ (H2.out.grows ((Grows.rfl' _).drew'.step hgq))).mono ?_
    rintro e wq' ⟨v', rfl, ho⟩
    go_wp2_with fail
    exact hKq _ _ ho.2 (ho.base ((Grows.rfl' _).drew'.step hgq))
  intro vb
  simp only [Act.put, List.setIfInBounds_toArray, List.set_cons_succ, List.set_cons_zero]
  iterate 4
    apply lex_pinv
    · intro wq hgq hdq Kq hKq
      obtain ⟨q0, q1, q2, q3, q4, q5, q6, q7, q8, q9⟩ := (HI.out.grows ((Grows.rfl' _).drew'.step hgq)).cells
      go_wp2
      exact hKq _ (Grows.rfl' _)
    simp only [Act.put, List.setIfInBounds_toArray, List.set_cons_succ, List.set_cons_zero]
  apply lex_any (fun v wx => OwnI w1 wx v L3) ((fun v x y hg h => h.later hg))
  · intro wq hgq hdq Kq hKq
    go_wp2_with fail
    refine (numbers_any _ L3 _ (H3.out.grows ((Grows.rfl' _).drew'.step hgq))).mono ?_
    rintro e wq' ⟨v', rfl, ho⟩
    go_wp2_with fail
    exact hKq _ _ ho.2 (ho.base ((Grows.rfl' _).drew'.step hgq))
  intro vc
  simp only [Act.put, List.setIfInBounds_toArray, List.set_cons_succ, List.set_cons_zero]
  apply lex_any (IsPl a b c d ys cs r L1 L2 L3 w1) IsPl.keep
  · intro wq hgq hdq Kq hKq
    have ho1 := hdq 21 _ rfl (by kernel_rfl)
    have ho2 := hdq 26 _ rfl (by kernel_rfl)
    have ho3 := hdq 31 _ rfl (by kernel_rfl)
    have HO : Hid (OwnI w1 wq va L1 ∧ OwnI w1 wq vb L2 ∧ OwnI w1 wq vc L3) := ⟨ho1, ho2, ho3⟩
    obtain ⟨B1, e1, rfl⟩ := OwnI.form ho1
    obtain ⟨B2, e2, rfl⟩ := OwnI.form ho2
    obtain ⟨B3, e3, rfl⟩ := OwnI.form ho3
    clear hdq ho1 ho2 ho3
    go_wp2
    exact hKq _ _ (Grows.rfl' _) ⟨_, _, _, rfl, HO.out.1, HO.out.2.1, HO.out.2.2⟩
  intro vd
  simp only [Act.put, List.setIfInBounds_toArray, List.set_cons_succ, List.set_cons_zero]
  refine lex_end ?_
  intro w3 hg3 hd3
  obtain ⟨p1, p2, p3, rfl, ho1, ho2, ho3⟩ := hd3 32 _ rfl
  clear hd3
  have HO : Hid (OwnI w1 w3 p1 L1 ∧ OwnI w1 w3 p2 L2 ∧ OwnI w1 w3 p3 L3) := ⟨ho1, ho2, ho3⟩
  obtain ⟨B1, e1, rfl⟩ := OwnI.form ho1
  obtain ⟨B2, e2, rfl⟩ := OwnI.form ho2
  obtain ⟨B3, e3, rfl⟩ := OwnI.form ho3
  have hbl : w3.heap[w.heap.size]? = some (.cells #[.int .i64 0, .int .i64 0, .int .i64 0, .int .i64 0, .int .i64 0, .int .i64 0, .int .i64 0, .slice none 0 0, .slice none 0 0, .slice none 0 0] 35 (0, 0)) := (((Grows.rfl' _).drew'.step hg3).block _ hsz).trans HX.out
  have kc : ∀ (i : Nat) (u : Value), (#[.int .i64 0, .int .i64 0, .int .i64 0, .int .i64 0, .int .i64 0, .int .i64 0, .int .i64 0, .slice none 0 0, .slice none 0 0, .slice none 0 0] : Array Value)[i]? = some u → w3.cell? ⟨w.heap.size, i, none⟩ = some u := fun i u hu => by simpa [World.cell?, hbl] using hu
  have k0 := kc 0 _ rfl
  have k1 := kc 1 _ rfl
  have k2 := kc 2 _ rfl
  have k3 := kc 3 _ rfl
  have k4 := kc 4 _ rfl
  have k5 := kc 5 _ rfl
  have k6 := kc 6 _ rfl
  have k7 := kc 7 _ rfl
  have k8 := kc 8 _ rfl
  have k9 := kc 9 _ rfl
  have kf : ∀ i, w3.frozen? ⟨w.heap.size, i, none⟩ = false := fun i => by simp [World.frozen?, hbl]
  have HX1 := Lib.hid (OwnX.start ho1 HG.out)
  have HX2 := Lib.hid (OwnX.start ho2 HG.out)
  have HX3 := Lib.hid (OwnX.start ho3 HG.out)
  clear ho1 ho2 ho3 hbl kc hg3 HO HX HI H1 H2 H3
  go_wp2_with fail
  refine bodyPost_ret (v := .agg #[.int .i64 a, .int .i64 b, .int .i64 c, .int .i64 d, .int .i64 ys, .int .i64 cs, .int .i64 r, .slice B1 L1.length e1, .slice B2 L2.length e2, .slice B3 L3.length e3]) (by simp [results, Try.results29, go_sem, k0, k1, k2, k3, k4, k5, k6, k7, k8, k9]) rfl ⟨_, rfl, _, _, _, rfl, ?_, ?_, ?_⟩
  · refine OwnX.own (B := w1.heap.size) ?_ (by omega)
    iterate 10 refine OwnX.set ?_ (by omega) hsz _
    exact HX1.out
  · refine OwnX.own (B := w1.heap.size) ?_ (by omega)
    iterate 10 refine OwnX.set ?_ (by omega) hsz _
    exact HX2.out
  · refine OwnX.own (B := w1.heap.size) ?_ (by omega)
    iterate 10 refine OwnX.set ?_ (by omega) hsz _
    exact HX3.out
/-- Bytes of a part of a row. -/
theorem Px.part {w : World} {pb N o n : Nat} {f : Nat → Int} (hP : Px w pb N f) (hN : o + n ≤ N) (hn : n ≤ 17592186044416) (hf : ∀ j, 0 ≤ f j ∧ f j ≤ 255) : RdB w (.slice (some ⟨pb, o, none⟩) n n) (bytesOf n fun j => f (o + j)) := by
  have h := hP.rd (o := o) (bytesOf n fun j => f (o + j)) n (by rw [bytesOf_length]; omega) (by omega) (by rw [bytesOf_length]; omega) (bytesOf_in fun j _ => hf _) (by rw [bytesOf_length]; omega) (fun j m hj => (bytesOf_get hj).2)
  rw [bytesOf_length] at h
  exact h

set_option maxRecDepth 20000 in
set_option maxHeartbeats 4000000 in
theorem implNewY_any (a b c d r : Int) (w : World) (h : PlainY a b c d r) :
    Calls Try.prog 15 #[box4 a b c d, .int .i64 r] w (NewPl a b c d (c - a) (acr a c (hsp r)) r (bytesOf (nY a b c d) fun _ => 0) (bytesOf (nC a b c d r) fun _ => 0) (bytesOf (nC a b c d r) fun _ => 0) w) := by
  have HS := Lib.hid (fun W => newY_any a b c d r W h)
  have hl0 := h.nY_eq.2
  have hl1 := h.nC_eq.2
  clear h
  go_enter Try.func15, Try.ntmps15
  go_wp2_with fail
  refine (rectangle_any _ _ _ _ _).mono ?_
  rintro e w1 ⟨rfl, hg1⟩
  have hbl1 : w1.heap[w.heap.size + 1]? = some (.cells #[.int .i64 0, .int .i64 0, .int .i64 0, .int .i64 0, .int .i64 0, .int .i64 0, .int .i64 0, .slice none 0 0, .slice none 0 0, .slice none 0 0] 35 (0, 0)) := (hg1.block _ (by simp)).trans (by
    have := heap_alloc_new (w.alloc (.cells #[.int .i64 a, .int .i64 b, .int .i64 c, .int .i64 d] 25)) (.cells #[.int .i64 0, .int .i64 0, .int .i64 0, .int .i64 0, .int .i64 0, .int .i64 0, .int .i64 0, .slice none 0 0, .slice none 0 0, .slice none 0 0] 35)
    rwa [World.size_alloc] at this)
  have HG : Hid (Grows w w1) := (((Grows.rfl' w).alloc' _).alloc' _).step hg1
  have HBL := Lib.hid hbl1
  clear hg1 hbl1
  go_wp2_with fail
  refine (HS.out _).mono ?_
  rintro e w2 ⟨ib, pb, rfl, hib, hpb, him, hpx, hg2⟩
  have HI := Lib.hid him
  have HP1 := Lib.hid (hpx.part (o := 0) (n := nY a b c d) (by omega) (by omega) (fun _ => by omega))
  have HP2 := Lib.hid (hpx.part (o := nY a b c d) (n := nC a b c d r) (by omega) (by omega) (fun _ => by omega))
  have HP3 := Lib.hid (hpx.part (o := nY a b c d + nC a b c d r) (n := nC a b c d r) (by omega) (by omega) (fun _ => by omega))
  have hsz1 : w.heap.size + 1 < w1.heap.size := (Array.getElem?_eq_some_iff.1 HBL.out).1
  replace HBL : Hid (w2.heap[w.heap.size + 1]? = some (.cells #[.int .i64 0, .int .i64 0, .int .i64 0, .int .i64 0, .int .i64 0, .int .i64 0, .int .i64 0, .slice none 0 0, .slice none 0 0, .slice none 0 0] 35 (0, 0))) := (hg2.block _ hsz1).trans HBL.out
  replace HG := Lib.hid (HG.out.step hg2)
  have hsz2 : w.heap.size + 1 < w2.heap.size := (Array.getElem?_eq_some_iff.1 HBL.out).1
  clear him hpx hg2 HS
  go_wp2_with fail
  refine (planes_any ib _ _ _ _ _ _ a b c d _ _ _ _ HI.out HP1.out HP2.out HP3.out).mono ?_
  rintro e w3 ⟨v, rfl, p1, p2, p3, rfl, ho1, ho2, ho3⟩
  obtain ⟨B1, e1, rfl⟩ := OwnI.form ho1
  obtain ⟨B2, e2, rfl⟩ := OwnI.form ho2
  obtain ⟨B3, e3, rfl⟩ := OwnI.form ho3
  have hbl : w3.heap[w.heap.size + 1]? = some (.cells #[.int .i64 0, .int .i64 0, .int .i64 0, .int .i64 0, .int .i64 0, .int .i64 0, .int .i64 0, .slice none 0 0, .slice none 0 0, .slice none 0 0] 35 (0, 0)) := (ho1.2.block _ hsz2).trans HBL.out
  have kc : ∀ (i : Nat) (u : Value), (#[.int .i64 0, .int .i64 0, .int .i64 0, .int .i64 0, .int .i64 0, .int .i64 0, .int .i64 0, .slice none 0 0, .slice none 0 0, .slice none 0 0] : Array Value)[i]? = some u → w3.cell? ⟨w.heap.size + 1, i, none⟩ = some u := fun i u hu => by simpa [World.cell?, hbl] using hu
  have k0 := kc 0 _ rfl
  have k1 := kc 1 _ rfl
  have k2 := kc 2 _ rfl
  have k3 := kc 3 _ rfl
  have k4 := kc 4 _ rfl
  have k5 := kc 5 _ rfl
  have k6 := kc 6 _ rfl
  have k7 := kc 7 _ rfl
  have k8 := kc 8 _ rfl
  have k9 := kc 9 _ rfl
  have kf : ∀ i, w3.frozen? ⟨w.heap.size + 1, i, none⟩ = false := fun i => by simp [World.frozen?, hbl]
  have HX1 := Lib.hid (OwnX.start ho1 HG.out)
  have HX2 := Lib.hid (OwnX.start ho2 HG.out)
  have HX3 := Lib.hid (OwnX.start ho3 HG.out)
  clear ho1 ho2 ho3 hbl kc HBL HI HP1 HP2 HP3
  simp only [bytesOf_length] at HX1 HX2 HX3 ⊢
  go_wp2_with fail
  refine bodyPost_ret (v := .agg #[.int .i64 a, .int .i64 b, .int .i64 c, .int .i64 d, .int .i64 (c - a), .int .i64 (acr a c (hsp r)), .int .i64 r, .slice B1 (nY a b c d) e1, .slice B2 (nC a b c d r) e2, .slice B3 (nC a b c d r) e3]) (by simp [results, Try.results15, go_sem, k0, k1, k2, k3, k4, k5, k6, k7, k8, k9]) rfl ⟨_, rfl, _, _, _, rfl, ?_, ?_, ?_⟩
  · refine OwnX.own (B := w2.heap.size) ?_ (by omega)
    iterate 10 refine OwnX.set ?_ (by omega) hsz2 _
    exact HX1.out
  · refine OwnX.own (B := w2.heap.size) ?_ (by omega)
    iterate 10 refine OwnX.set ?_ (by omega) hsz2 _
    exact HX2.out
  · refine OwnX.own (B := w2.heap.size) ?_ (by omega)
    iterate 10 refine OwnX.set ?_ (by omega) hsz2 _
    exact HX3.out

set_option maxHeartbeats 2000000 in
theorem across_any (lo hi s : Int) (w : World) (hs : s = 1 ∨ s = 2 ∨ s = 4) (h0 : 0 ≤ lo) (h1 : 0 ≤ hi) (h2 : lo ≤ 4611686018427387904) (h3 : hi ≤ 4611686018427387904) : Calls Try.prog 43 #[.int .i64 lo, .int .i64 hi, .int .i64 s] w fun e w' => e = .returned (.int .i64 (acr lo hi s)) ∧ Grows w w' := by
  have t1 : (hi + 2 - 1).tdiv 2 = (hi + 2 - 1) / 2 := Int.tdiv_eq_ediv_of_nonneg (by omega)
  have t2 : lo.tdiv 2 = lo / 2 := Int.tdiv_eq_ediv_of_nonneg (by omega)
  have t3 : (hi + 4 - 1).tdiv 4 = (hi + 4 - 1) / 4 := Int.tdiv_eq_ediv_of_nonneg (by omega)
  have t4 : lo.tdiv 4 = lo / 4 := Int.tdiv_eq_ediv_of_nonneg (by omega)
  have t5 : (hi + 1 - 1).tdiv 1 = (hi + 1 - 1) / 1 := Int.tdiv_eq_ediv_of_nonneg (by omega)
  have t6 : lo.tdiv 1 = lo / 1 := Int.tdiv_eq_ediv_of_nonneg (by omega)
  rcases hs with rfl | rfl | rfl
  all_goals
    go_enter Try.func43, Try.ntmps43
    go_wp2_with fail
    apply wp_region_lex_lit 11 (by kernel_rfl) (by kernel_rfl)
    iterate 11
      apply lex_pin
      · intro wq hgq hdq Kq hKq
        go_wp2
        exact hKq _ (Grows.rfl' _)
      · kernel_rfl
    refine lex_end ?_
    intro w3 hg3 _
    go_wp2
    go_ret
    exact ⟨ret_int (by unfold acr; omega), (Grows.rfl' _).drew'.step hg3⟩

/-! ### Planes in a box -/
def PlAt (w : World) (pb : Nat) (a b c d ys cs r : Int) (p1 p2 p3 : Value) : Prop := w.heap[pb]? = some (.cells #[.int .i64 a, .int .i64 b, .int .i64 c, .int .i64 d, .int .i64 ys, .int .i64 cs, .int .i64 r, p1, p2, p3] 35 (0, 0))
section
variable {w w' : World} {pb : Nat} {a b c d ys cs r : Int} {p1 p2 p3 : Value}
theorem PlAt.lt (h : PlAt w pb a b c d ys cs r p1 p2 p3) : pb < w.heap.size := (Array.getElem?_eq_some_iff.1 h).1
theorem PlAt.grows (h : PlAt w pb a b c d ys cs r p1 p2 p3) (hg : Grows w w') : PlAt w' pb a b c d ys cs r p1 p2 p3 := (hg.block pb h.lt).trans h
theorem PlAt.cells (h : PlAt w pb a b c d ys cs r p1 p2 p3) :
    w.cell? ⟨pb, 0, none⟩ = some (.int .i64 a) ∧ w.cell? ⟨pb, 1, none⟩ = some (.int .i64 b) ∧ w.cell? ⟨pb, 2, none⟩ = some (.int .i64 c) ∧ w.cell? ⟨pb, 3, none⟩ = some (.int .i64 d) ∧ w.cell? ⟨pb, 4, none⟩ = some (.int .i64 ys) ∧ w.cell? ⟨pb, 5, none⟩ = some (.int .i64 cs) ∧ w.cell? ⟨pb, 6, none⟩ = some (.int .i64 r) ∧ w.cell? ⟨pb, 7, none⟩ = some p1 ∧ w.cell? ⟨pb, 8, none⟩ = some p2 ∧ w.cell? ⟨pb, 9, none⟩ = some p3 := by
  unfold PlAt at h
  simp [World.cell?, h]
end
theorem OwnI.formN {W w : World} {v : Value} {xs : List Int} {n : Nat} (h : OwnI W w v xs) (hn : xs.length = n) : ∃ A c, v = .slice A n c := hn ▸ h.form
end Go.Proofs.Ytcohenlemddpfaa

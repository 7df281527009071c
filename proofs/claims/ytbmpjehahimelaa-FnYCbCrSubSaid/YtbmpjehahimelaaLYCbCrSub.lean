/-
  FnYCbCrSub returns true for every input, and each argument reads afterwards as before. Conditions: none beyond the row's own.
-/
import Derived.Test.YtbmpjehahimelaaYSubR
import Derived.Test.YtbmpjehahimelaaYSample
import Derived.Test.YtbmpjehahimelaaLift
import Derived.Deep.Cut
namespace Go.Proofs.Ytbmpjehahimelaa.lawYCbCrSub
open Go.ChangeShapes Go.WideShapes Go.ChangeAt Go.RowKit
set_option linter.unusedVariables false

theorem storedP_grown {w : World} {pb : Nat} (v0 v1 v2 v3 v4 v5 v6 v7 v8 v9 : Value) : w.grownBy (storedP w pb v0 v1 v2 v3 v4 v5 v6 v7 v8 v9) (some pb) := by
  unfold storedP
  iterate 10 refine only_set ?_ _ _
  exact World.grownBy.refl _ _
theorem storedP_own {W w : World} {pb : Nat} {p : Value} {zs : List Int} {cs : Array Value} (h : OwnI W w p zs) (hb : w.heap[pb]? = some (.cells cs 31 (0, 0))) (hp : W.heap.size ≤ pb) (v0 v1 v2 v3 v4 v5 v6 v7 v8 v9 : Value) : OwnI W (storedP w pb v0 v1 v2 v3 v4 v5 v6 v7 v8 v9) p zs := by
  refine ⟨h.1.kept (storedP_grown v0 v1 v2 v3 v4 v5 v6 v7 v8 v9) ?_, storedP_grows h.2 hp _ _ _ _ _ _ _ _ _ _⟩
  rcases h.1.2 with ⟨rfl, _⟩ | ⟨g, cap, cur, rfl, hg, hh, _⟩
  · exact .inl rfl
  · refine .inr fun e => ?_
    have e' : g = pb := by simpa [Value.ownBlock] using e
    subst e'
    rw [hb] at hh
    simp at hh

/-- The lists of a part. -/
def l1 (a b c d r A B : Int) (zy zb zr : List Int) : List Int := bytesOf (nY a b c d - yAt a b c A B) fun j => plF (nY a b c d) (nC a b c d r) zy zb zr (0 + yAt a b c A B + j)
def l2 (a b c d r A B : Int) (zy zb zr : List Int) : List Int := bytesOf (nC a b c d r - cAt a b c r A B) fun j => plF (nY a b c d) (nC a b c d r) zy zb zr (nY a b c d + cAt a b c r A B + j)
def l3 (a b c d r A B : Int) (zy zb zr : List Int) : List Int := bytesOf (nC a b c d r - cAt a b c r A B) fun j => plF (nY a b c d) (nC a b c d r) zy zb zr (nY a b c d + nC a b c d r + cAt a b c r A B + j)

/-- What a part has at a point of it. -/
theorem part_has {a b c d r A B x y : Int} {zy zb zr : List Int} (h : PlainY a b c d r) (hin : Inn a b c d A B) (hin2 : Inn a b c d x y) (hx : A ≤ x) (hy : B ≤ y) :
    ∃ i k : Nat, (y - B) * (c - a) + (x - A) = (i : Int) ∧ (y / vsp r - B / vsp r) * acr a c (hsp r) + (x / hsp r - A / hsp r) = (k : Int) ∧
      (l1 a b c d r A B zy zb zr)[i]? = some (colY a b c d zy x y) ∧ (l2 a b c d r A B zy zb zr)[k]? = some (colC a b c d r zb x y) ∧ (l3 a b c d r A B zy zb zr)[k]? = some (colC a b c d r zr x y) := by
  obtain ⟨hi, hil⟩ := h.yAt_eq hin
  obtain ⟨hk, hkl⟩ := h.cAt_eq hin
  obtain ⟨hi2, hil2⟩ := h.yAt_eq hin2
  obtain ⟨hk2, hkl2⟩ := h.cAt_eq hin2
  have hcw := h.cw
  have hw : vsp r = 1 ∨ vsp r = 2 ∨ vsp r = (4 : Int) := by rcases vsp_or r with h | h <;> simp [h]
  obtain ⟨_, ⟨g1, g2⟩, ⟨g3, g4⟩, _⟩ := h
  obtain ⟨i1, i2, i3, i4⟩ := hin
  have ey : (y - b) * (c - a) = (y - B) * (c - a) + (B - b) * (c - a) := by rw [← Int.add_mul]; congr 1; omega
  have ec : (y / vsp r - b / vsp r) * acr a c (hsp r) = (y / vsp r - B / vsp r) * acr a c (hsp r) + (B / vsp r - b / vsp r) * acr a c (hsp r) := by rw [← Int.add_mul]; congr 1; omega
  have my : 0 ≤ (y - B) * (c - a) := Int.mul_nonneg (by omega) (by omega)
  have dv : 0 ≤ y / vsp r - B / vsp r := by rcases hw with h | h | h <;> rw [h] <;> omega
  have dh : 0 ≤ x / hsp r - A / hsp r := by rcases hsp_or r with h | h | h <;> rw [h] <;> omega
  have mc : 0 ≤ (y / vsp r - B / vsp r) * acr a c (hsp r) := Int.mul_nonneg dv (by omega)
  refine ⟨yAt a b c x y - yAt a b c A B, cAt a b c r x y - cAt a b c r A B, by omega, by omega, ?_, ?_, ?_⟩
  · unfold l1
    rw [bytesOf_at (by omega), colY_in hin2]
    unfold plF
    rw [if_pos (by omega)]
    congr 2
    omega
  · unfold l2
    rw [bytesOf_at (by omega), colC_in hin2]
    unfold plF
    rw [if_neg (by omega), if_pos (by omega)]
    congr 2
    omega
  · unfold l3
    rw [bytesOf_at (by omega), colC_in hin2]
    unfold plF
    rw [if_neg (by omega), if_neg (by omega)]
    congr 2
    omega
set_option maxRecDepth 20000 in
set_option maxHeartbeats 4000000 in
theorem walk (a b c d r : Int) (vy : Value) (ys : List Int) (vb : Value) (bs : List Int) (vr : Value) (rs : List Int) (a' b' c' d' : Int) (w : World) (ha : I64 a) (hb : I64 b) (hc : I64 c) (hd : I64 d) (hr : I64 r) (h1 : RdI w vy ys) (h2 : RdI w vb bs) (h3 : RdI w vr rs) (ha' : I64 a') (hb' : I64 b') (hc' : I64 c') (hd' : I64 d') :
    Calls Try.prog 3 #[box4 a b c d, .int .i64 r, vy, vb, vr, box4 a' b' c' d'] w fun e w' => e = .returned (.bool true) ∧ Grows w w' := by
  have H1 := Lib.hid h1
  have H2 := Lib.hid h2
  have H3 := Lib.hid h3
  obtain ⟨A1, c1, rfl, _⟩ := h1
  obtain ⟨A2, c2, rfl, _⟩ := h2
  obtain ⟨A3, c3, rfl, _⟩ := h3
  go_enter Try.func3, Try.ntmps3
  go_wp2_with fail
  refine (asRect_any _ _ _ _ _).mono ?_
  rintro e w1 ⟨rfl, hg1⟩
  have q0 : w1.cell? ⟨w.heap.size, 0, none⟩ = some (.int .i64 a) := hg1.cell_some (by simp)
  have q1 : w1.cell? ⟨w.heap.size, 1, none⟩ = some (.int .i64 b) := hg1.cell_some (by simp)
  have q2 : w1.cell? ⟨w.heap.size, 2, none⟩ = some (.int .i64 c) := hg1.cell_some (by simp)
  have q3 : w1.cell? ⟨w.heap.size, 3, none⟩ = some (.int .i64 d) := hg1.cell_some (by simp)
  have HN : Hid (BoxAt w1 (w.heap.size + 1) a' b' c' d') := ⟨hg1.cell_some (cell_top (by simp) rfl), hg1.cell_some (cell_top (by simp) rfl), hg1.cell_some (cell_top (by simp) rfl), hg1.cell_some (cell_top (by simp) rfl)⟩
  have HG : Hid (Grows w w1) := (((Grows.rfl' w).alloc' _).alloc' _).step hg1
  clear hg1
  go_upto_region 2 with fail
  have HB : Hid (BoxAt (w1.alloc (.cells #[.int .i64 a, .int .i64 b, .int .i64 c, .int .i64 d] 25)) w1.heap.size a b c d) := ⟨cell_top rfl rfl, cell_top rfl rfl, cell_top rfl rfl, cell_top rfl rfl⟩
  have hgw : Grows w1 (w1.alloc (.cells #[.int .i64 a, .int .i64 b, .int .i64 c, .int .i64 d] 25)) := (Grows.rfl' _).alloc' _
  replace HN := Lib.hid (HN.out.grows hgw)
  have HR0 : Hid (BoxAt (w1.alloc (.cells #[.int .i64 a, .int .i64 b, .int .i64 c, .int .i64 d] 25)) w.heap.size a b c d) := BoxAt.grows ⟨q0, q1, q2, q3⟩ hgw
  replace HG := Lib.hid (HG.out.step hgw)
  clear hgw q0 q1 q2 q3
  generalize w1.alloc (.cells #[.int .i64 a, .int .i64 b, .int .i64 c, .int .i64 d] 25) = w2 at *
  generalize w1.heap.size = bx at *
  by_cases hm : Meet a b c d a' b' c' d'
  · have HM := Lib.hid hm
    clear hm
    apply wp_region_flo_lit 9 (by kernel_rfl) (by kernel_rfl)
    iterate 7
      apply flo_pin
      · intro wq hgq hdq Kq hKq
        obtain ⟨p0, p1, p2, p3⟩ := HB.out.grows ((Grows.rfl' _).drew'.step hgq)
        obtain ⟨n0', n1', n2', n3'⟩ := HN.out.grows ((Grows.rfl' _).drew'.step hgq)
        go_wp2_with ((first | (go_at_call 7; refine (asRect_any _ _ _ _ _).mono ?_) | (go_at_call 8; refine (common_yes _ _ _ _ _ _ _ _ _ HM.out).mono ?_)); rintro e wq' ⟨rfl, hgq'⟩)
        first | exact hKq _ (Grows.rfl' _) | exact hKq _ hgq'
      · kernel_rfl
      intro _
    apply flo_any (RectBox w2) RectBox.keep
    · intro wq hgq hdq Kq hKq
      have hsz4 : w2.heap.size ≤ wq.heap.size := hgq.size
      go_wp2
      exact hKq _ _ ((Grows.rfl' _).alloc' _) ⟨wq.heap.size, rfl, hsz4, _, _, _, _, heap_alloc_new _ _⟩
    · kernel_rfl
    intro vx
    simp only [Act.put, List.setIfInBounds_toArray, List.set_cons_succ, List.set_cons_zero]
    apply flo_put 7 vx (RectIn w2 (max a a') (max b b') (min c c') (min d d')) RectIn.keep rfl rfl (by kernel_rfl)
    · intro wq hgq hdq Kq hKq
      obtain ⟨rb, rfl, hrb, r1, r2, r3, r4, kb⟩ := hdq 7 _ rfl (by kernel_rfl)
      clear hdq
      have KS := Lib.hid ((((kb.set0 (max a a')).set1 (max b b')).set2 (min c c')).set3 (min d d'))
      have HGS := Lib.hid ((((hgq.set' (p := ⟨rb, 0, none⟩) hrb (.int .i64 (max a a'))).set' (p := ⟨rb, 1, none⟩) hrb (.int .i64 (max b b'))).set' (p := ⟨rb, 2, none⟩) hrb (.int .i64 (min c c'))).set' (p := ⟨rb, 3, none⟩) hrb (.int .i64 (min d d')))
      obtain ⟨k0, k1, k2, k3⟩ := kb.cells
      have kf := kb.frozen
      clear kb
      go_wp2
      refine hKq _ HGS.out ?_ ⟨rb, rfl, hrb, KS.out⟩
      repeat' first | exact Keeps.nil | refine Keeps.idle ?_ | refine Keeps.snoc ?_ ?_
      intro h
      exact ⟨rb, rfl, hrb, _, _, _, _, KS.out⟩
    · kernel_rfl
    intro _
    refine flo_end ?_
    intro w3 hg3 hd3
    obtain ⟨rb, rfl, hrb, kb⟩ := hd3 8 _ rfl
    clear hd3
    have HGS : Hid (Grows w2 w3) := (Grows.rfl' _).drew'.step hg3
    have KS := Lib.hid kb
    clear hg3 kb
    go_upto_region 3 with fail
    replace HB := Lib.hid (HB.out.grows HGS.out)
    replace HN := Lib.hid (HN.out.grows HGS.out)
    replace HR0 := Lib.hid (HR0.out.grows HGS.out)
    replace HG := Lib.hid (HG.out.step HGS.out)
    obtain ⟨r0, r1, r2, r3⟩ := HR0.out
    by_cases hf : PlainY a b c d r
    · have HP := Lib.hid hf
      clear hf
      go_wp2_with fail
      refine (plainY_yes _ _ _ _ _ _ HP.out).mono ?_
      rintro e w5 ⟨rfl, hg5⟩
      replace HB := Lib.hid (HB.out.grows hg5)
      replace HN := Lib.hid (HN.out.grows hg5)
      replace KS := Lib.hid (KS.out.grows hg5)
      replace HG := Lib.hid (HG.out.step hg5)
      clear hg5 r0 r1 r2 r3 HR0 HGS
      generalize w5 = w4' at *
      have hn0 := HP.out.nY_eq.2
      have hn1 := HP.out.nC_eq.2
      have hAB : Inn a b c d (max a a') (max b b') := by obtain ⟨m1, m2⟩ := HM.out; obtain ⟨_, _, ⟨g3, g4⟩, _⟩ := HP.out; unfold Inn; omega
      have HAB := Lib.hid hAB
      clear hAB
      have HL : Hid (∀ W, Grows w W → Calls Try.prog 10 #[box4 a b c d, .int .i64 r, .slice A1 ys.length c1, .slice A2 bs.length c2, .slice A3 rs.length c3, box4 a' b' c' d'] W (NewPl (max a a') (max b b') (min c c') (min d d') (c - a) (acr a c (hsp r)) r (l1 a b c d r (max a a') (max b b') ys bs rs) (l2 a b c d r (max a a') (max b b') ys bs rs) (l3 a b c d r (max a a') (max b b') ys bs rs) W)) := by
        intro W hW
        have h := implSubY_yes a b c d r a' b' c' d' _ _ _ ys bs rs W HP.out (H1.out.grows hW) (H2.out.grows hW) (H3.out.grows hW) HM.out.symm
        rw [Int.max_comm a' a, Int.max_comm b' b, Int.min_comm c' c, Int.min_comm d' d] at h
        exact h
      have HLL : Hid ((l1 a b c d r (max a a') (max b b') ys bs rs).length ≤ 1000000 ∧ (l2 a b c d r (max a a') (max b b') ys bs rs).length ≤ 1000000 ∧ (l3 a b c d r (max a a') (max b b') ys bs rs).length ≤ 1000000) := by
        unfold Hid l1 l2 l3
        rw [bytesOf_length, bytesOf_length, bytesOf_length]
        omega
      have HLI : Hid ((∀ n ∈ l1 a b c d r (max a a') (max b b') ys bs rs, -9223372036854775808 ≤ n ∧ n ≤ 9223372036854775807) ∧ (∀ n ∈ l2 a b c d r (max a a') (max b b') ys bs rs, -9223372036854775808 ≤ n ∧ n ≤ 9223372036854775807) ∧ (∀ n ∈ l3 a b c d r (max a a') (max b b') ys bs rs, -9223372036854775808 ≤ n ∧ n ≤ 9223372036854775807)) :=
        ⟨bytesOf_in fun j _ => by have := plF_in (nY a b c d) (nC a b c d r) ys bs rs (0 + yAt a b c (max a a') (max b b') + j); omega, bytesOf_in fun j _ => by have := plF_in (nY a b c d) (nC a b c d r) ys bs rs (nY a b c d + cAt a b c r (max a a') (max b b') + j); omega, bytesOf_in fun j _ => by have := plF_in (nY a b c d) (nC a b c d r) ys bs rs (nY a b c d + nC a b c d r + cAt a b c r (max a a') (max b b') + j); omega⟩
      have HPH := Lib.hid (fun (x y : Int) (hin2 : Inn a b c d x y) (hx : max a a' ≤ x) (hy : max b b' ≤ y) => part_has (zy := ys) (zb := bs) (zr := rs) HP.out HAB.out hin2 hx hy)
      generalize l1 a b c d r (max a a') (max b b') ys bs rs = L1 at *
      generalize l2 a b c d r (max a a') (max b b') ys bs rs = L2 at *
      generalize l3 a b c d r (max a a') (max b b') ys bs rs = L3 at *
      go_wp2_with fail
      apply wp_region_lex_lit 9 (by kernel_rfl) (by kernel_rfl)
      iterate 7
        apply lex_pin
        · intro wq hgq hdq Kq hKq
          obtain ⟨p0, p1, p2, p3⟩ := HB.out.grows ((Grows.rfl' _).drew'.step hgq)
          obtain ⟨n0', n1', n2', n3'⟩ := HN.out.grows ((Grows.rfl' _).drew'.step hgq)
          go_wp2_with ((go_at_call 7; refine (asRect_any _ _ _ _ _).mono ?_); rintro e wq' ⟨rfl, hgq'⟩)
          first | exact hKq _ (Grows.rfl' _) | exact hKq _ hgq'
        · kernel_rfl
      apply lex_any (IsPl (max a a') (max b b') (min c c') (min d d') (c - a) (acr a c (hsp r)) r L1 L2 L3 w4') IsPl.keep
      · intro wq hgq hdq Kq hKq
        go_wp2_with fail
        refine (HL.out _ (HG.out.drew'.step hgq)).mono ?_
        rintro e wq' ⟨v', rfl, p1, p2, p3, rfl, o1, o2, o3⟩
        have hgb : Grows w4' wq := (Grows.rfl' w4').drew'.step hgq
        have HO : Hid (Grows wq wq' ∧ IsPl (max a a') (max b b') (min c c') (min d d') (c - a) (acr a c (hsp r)) r L1 L2 L3 w4' (.agg #[.int .i64 (max a a'), .int .i64 (max b b'), .int .i64 (min c c'), .int .i64 (min d d'), .int .i64 (c - a), .int .i64 (acr a c (hsp r)), .int .i64 r, p1, p2, p3]) wq') := ⟨o1.2, p1, p2, p3, rfl, o1.base hgb, o2.base hgb, o3.base hgb⟩
        clear o1 o2 o3 hgb
        go_wp2_with fail
        exact hKq _ _ HO.out.1 HO.out.2
      intro vb
      simp only [Act.put, List.setIfInBounds_toArray, List.set_cons_succ, List.set_cons_zero]
      apply lex_any (ZeroPl w4') ZeroPl.keep
      · intro wq hgq hdq Kq hKq
        have hsz4 : w4'.heap.size ≤ wq.heap.size := hgq.size
        go_wp2
        exact hKq _ _ ((Grows.rfl' _).alloc' _) ⟨wq.heap.size, rfl, hsz4, heap_alloc_new _ _⟩
      intro vx
      simp only [Act.put, List.setIfInBounds_toArray, List.set_cons_succ, List.set_cons_zero]
      refine lex_end ?_
      intro w5 hg5 hd5
      obtain ⟨p1, p2, p3, rfl, o1, o2, o3⟩ := hd5 7 _ rfl
      obtain ⟨pbx, rfl, hpb, hbox⟩ := hd5 8 _ rfl
      clear hd5
      have HOO : Hid (OwnI w4' w5 p1 L1 ∧ OwnI w4' w5 p2 L2 ∧ OwnI w4' w5 p3 L3) := ⟨o1, o2, o3⟩
      obtain ⟨A', cc1, rfl⟩ := o1.form
      obtain ⟨B', cc2, rfl⟩ := o2.form
      obtain ⟨C', cc3, rfl⟩ := o3.form
      have kc : ∀ (i : Nat) (u : Value), (#[.int .i64 0, .int .i64 0, .int .i64 0, .int .i64 0, .int .i64 0, .int .i64 0, .int .i64 0, .slice none 0 0, .slice none 0 0, .slice none 0 0] : Array Value)[i]? = some u → w5.cell? ⟨pbx, i, none⟩ = some u := fun i u hu => by simpa [World.cell?, hbox] using hu
      have k0 := kc 0 _ rfl
      have k1 := kc 1 _ rfl
      have k2 := kc 2 _ rfl
      have k3 := kc 3 _ rfl
      have k4 := kc 4 _ rfl
      have k5 := kc 5 _ rfl
      have k6 := kc 6 _ rfl
      have k7 := kc 7 _ rfl
      have k8 := kc 8 _ rfl
      have k9 := kc 9 _ rfl
      have kf : ∀ i, w5.frozen? ⟨pbx, i, none⟩ = false := fun i => by simp [World.frozen?, hbox]
      have HX : Hid (PlAt (storedP w5 pbx (.int .i64 (max a a')) (.int .i64 (max b b')) (.int .i64 (min c c')) (.int .i64 (min d d')) (.int .i64 (c - a)) (.int .i64 (acr a c (hsp r))) (.int .i64 r) (.slice A' L1.length cc1) (.slice B' L2.length cc2) (.slice C' L3.length cc3)) pbx (max a a') (max b b') (min c c') (min d d') (c - a) (acr a c (hsp r)) r (.slice A' L1.length cc1) (.slice B' L2.length cc2) (.slice C' L3.length cc3)) := storedP_block hbox (.int .i64 (max a a')) (.int .i64 (max b b')) (.int .i64 (min c c')) (.int .i64 (min d d')) (.int .i64 (c - a)) (.int .i64 (acr a c (hsp r))) (.int .i64 r) (.slice A' L1.length cc1) (.slice B' L2.length cc2) (.slice C' L3.length cc3)
      have HG5 : Hid (Grows w4' (storedP w5 pbx (.int .i64 (max a a')) (.int .i64 (max b b')) (.int .i64 (min c c')) (.int .i64 (min d d')) (.int .i64 (c - a)) (.int .i64 (acr a c (hsp r))) (.int .i64 r) (.slice A' L1.length cc1) (.slice B' L2.length cc2) (.slice C' L3.length cc3))) := storedP_grows ((Grows.rfl' w4').drew'.step hg5) hpb (.int .i64 (max a a')) (.int .i64 (max b b')) (.int .i64 (min c c')) (.int .i64 (min d d')) (.int .i64 (c - a)) (.int .i64 (acr a c (hsp r))) (.int .i64 r) (.slice A' L1.length cc1) (.slice B' L2.length cc2) (.slice C' L3.length cc3)
      have HR1 : Hid (RdI (storedP w5 pbx (.int .i64 (max a a')) (.int .i64 (max b b')) (.int .i64 (min c c')) (.int .i64 (min d d')) (.int .i64 (c - a)) (.int .i64 (acr a c (hsp r))) (.int .i64 r) (.slice A' L1.length cc1) (.slice B' L2.length cc2) (.slice C' L3.length cc3)) (.slice A' L1.length cc1) L1) := (storedP_own HOO.out.1 hbox hpb (.int .i64 (max a a')) (.int .i64 (max b b')) (.int .i64 (min c c')) (.int .i64 (min d d')) (.int .i64 (c - a)) (.int .i64 (acr a c (hsp r))) (.int .i64 r) (.slice A' L1.length cc1) (.slice B' L2.length cc2) (.slice C' L3.length cc3)).rd (by have := HLL.out; omega) HLI.out.1
      have HR2 : Hid (RdI (storedP w5 pbx (.int .i64 (max a a')) (.int .i64 (max b b')) (.int .i64 (min c c')) (.int .i64 (min d d')) (.int .i64 (c - a)) (.int .i64 (acr a c (hsp r))) (.int .i64 r) (.slice A' L1.length cc1) (.slice B' L2.length cc2) (.slice C' L3.length cc3)) (.slice B' L2.length cc2) L2) := (storedP_own HOO.out.2.1 hbox hpb (.int .i64 (max a a')) (.int .i64 (max b b')) (.int .i64 (min c c')) (.int .i64 (min d d')) (.int .i64 (c - a)) (.int .i64 (acr a c (hsp r))) (.int .i64 r) (.slice A' L1.length cc1) (.slice B' L2.length cc2) (.slice C' L3.length cc3)).rd (by have := HLL.out; omega) HLI.out.2.1
      have HR3 : Hid (RdI (storedP w5 pbx (.int .i64 (max a a')) (.int .i64 (max b b')) (.int .i64 (min c c')) (.int .i64 (min d d')) (.int .i64 (c - a)) (.int .i64 (acr a c (hsp r))) (.int .i64 r) (.slice A' L1.length cc1) (.slice B' L2.length cc2) (.slice C' L3.length cc3)) (.slice C' L3.length cc3) L3) := (storedP_own HOO.out.2.2 hbox hpb (.int .i64 (max a a')) (.int .i64 (max b b')) (.int .i64 (min c c')) (.int .i64 (min d d')) (.int .i64 (c - a)) (.int .i64 (acr a c (hsp r))) (.int .i64 r) (.slice A' L1.length cc1) (.slice B' L2.length cc2) (.slice C' L3.length cc3)).rd (by have := HLL.out; omega) HLI.out.2.2
      have HCH : Hid (((((((((((w5.setCell ⟨pbx, 0, none⟩ (.int .i64 (max a a'))).setCell ⟨pbx, 1, none⟩ (.int .i64 (max b b'))).setCell ⟨pbx, 2, none⟩ (.int .i64 (min c c'))).setCell ⟨pbx, 3, none⟩ (.int .i64 (min d d'))).setCell ⟨pbx, 4, none⟩ (.int .i64 (c - a))).setCell ⟨pbx, 5, none⟩ (.int .i64 (acr a c (hsp r)))).setCell ⟨pbx, 6, none⟩ (.int .i64 r)).setCell ⟨pbx, 7, none⟩ (.slice A' L1.length cc1)).setCell ⟨pbx, 8, none⟩ (.slice B' L2.length cc2)).setCell ⟨pbx, 9, none⟩ (.slice C' L3.length cc3)) = storedP w5 pbx (.int .i64 (max a a')) (.int .i64 (max b b')) (.int .i64 (min c c')) (.int .i64 (min d d')) (.int .i64 (c - a)) (.int .i64 (acr a c (hsp r))) (.int .i64 r) (.slice A' L1.length cc1) (.slice B' L2.length cc2) (.slice C' L3.length cc3)) := rfl
      clear hbox hg5 kc o1 o2 o3
      go_upto_region 6 with fail
      rw [HCH.out]
      clear HCH k0 k1 k2 k3 k4 k5 k6 k7 k8 k9 kf HOO
      generalize storedP w5 pbx (.int .i64 (max a a')) (.int .i64 (max b b')) (.int .i64 (min c c')) (.int .i64 (min d d')) (.int .i64 (c - a)) (.int .i64 (acr a c (hsp r))) (.int .i64 r) (.slice A' L1.length cc1) (.slice B' L2.length cc2) (.slice C' L3.length cc3) = w6 at *
      replace HB := Lib.hid (HB.out.grows HG5.out)
      replace KS := Lib.hid (KS.out.grows HG5.out)
      replace HG := Lib.hid (HG.out.step HG5.out)
      clear HN hpb HL
      obtain ⟨t0, t1, t2, t3, t4, t5, t6, t7, t8, t9⟩ := HX.out.cells
      obtain ⟨q0, q1, q2, q3⟩ := KS.out.cells
      have hrr : (r != r) = false := by simp
      go_wp2_with fail
      clear t0 t1 t2 t3 t4 t5 t6 t7 t8 t9 hrr HG5 HLL HLI
      obtain ⟨⟨⟨f1, f2⟩, ⟨f3, f4⟩, ⟨f5, f6⟩, ⟨f7, f8⟩⟩, ⟨g1, g2⟩, ⟨g3, g4⟩, ⟨r0, r5⟩⟩ := HP.out
      go_loopw [17, 18, 19, 20] (fun yv _ _ _ wr => ∃ y : Int, max b b' ≤ y ∧ y ≤ min d d' ∧ yv = .int .i64 y ∧ Grows w6 wr) (fun yv _ _ _ _ => (min d d' - intOf yv).toNat)
      case atStart => exact ⟨max b b', by omega, by have := HM.out; unfold Meet at this; omega, rfl, Grows.rfl' _⟩
      case round =>
        obtain ⟨y, hy1, hy2, rfl, hgr⟩ := hrel
        have z0 := hgr.cell_some q0
        have z2 := hgr.cell_some q2
        have z3 := hgr.cell_some q3
        by_cases hyd : y < min d d'
        · have hb1 : decide (y < min d d') = true := decide_eq_true hyd
          have HY : Hid (max b b' ≤ y ∧ y < min d d') := ⟨hy1, hyd⟩
          have HGR := Lib.hid hgr
          clear hgr
          obtain ⟨wo, rfl⟩ : ∃ wo : World, wo = wr := ⟨_, rfl⟩
          go_wp2_with fail
          go_loopw [18, 19, 20] (fun xv _ _ wr => ∃ x : Int, max a a' ≤ x ∧ x ≤ min c c' ∧ xv = .int .i64 x ∧ Grows wo wr) (fun xv _ _ _ => (min c c' - intOf xv).toNat)
          case atStart => exact ⟨max a a', by omega, by have := HM.out; unfold Meet at this; omega, rfl, Grows.rfl' _⟩
          case round =>
            obtain ⟨x, hx1, hx2, rfl, hgr2⟩ := hrel
            have hg2 := HGR.out.step hgr2
            have HG2 := Lib.hid hg2
            have u2 := hg2.cell_some q2
            by_cases hxc : x < min c c'
            · obtain ⟨t0, t1, t2, t3, t4, t5, t6, t7, t8, t9⟩ := (HX.out.grows hg2).cells
              have hb2 : decide (x < min c c') = true := decide_eq_true hxc
              have hcw := HP.out.cw
              have hmm := HM.out
              obtain ⟨i, k, hi, hk, e1, e2, e3⟩ := HPH.out x y (by unfold Inn; omega) hx1 hy1
              have HSA := Lib.hid (sampleAt_in (max a a') (max b b') (min c c') (min d d') (c - a) (acr a c (hsp r)) r x y _ _ _ i k _ _ _ _ _ _ wr (HR1.out.grows hg2) (HR2.out.grows hg2) (HR3.out.grows hg2) r0 r5 (by omega) (by omega) hx1 (by omega) hy1 (by omega) (by omega) (by omega) (by omega) (by omega) (by omega) (by omega) hi hk e1 e2 e3)
              have HRD := Lib.hid (fun (W : World) (hW : Grows w W) => readY_any a b c d r x y _ _ _ ys bs rs W HP.out (H1.out.grows hW) (H2.out.grows hW) (H3.out.grows hW))
              clear hi hk e1 e2 e3 hmm hcw
              generalize colY a b c d ys x y = u0 at *
              generalize colC a b c d r bs x y = u1 at *
              generalize colC a b c d r rs x y = u2' at *
              clear hg2
              go_wp2_with fail
              refine HSA.out.mono ?_
              rintro e w7 ⟨rfl, hg7⟩
              go_upto_region 15 with fail
              have HC : Hid (BoxAt (w7.alloc (.cells #[.int .i64 u0, .int .i64 u1, .int .i64 u2', .int .i64 0] 34)) w7.heap.size u0 u1 u2' 0) := ⟨cell_top rfl rfl, cell_top rfl rfl, cell_top rfl rfl, cell_top rfl rfl⟩
              have HG7 : Hid (Grows wo (w7.alloc (.cells #[.int .i64 u0, .int .i64 u1, .int .i64 u2', .int .i64 0] 34))) := (hgr2.step hg7).alloc' _
              generalize w7.alloc (.cells #[.int .i64 u0, .int .i64 u1, .int .i64 u2', .int .i64 0] 34) = w8 at *
              generalize w7.heap.size = cbx at *
              clear t0 t1 t2 t3 t4 t5 t6 t7 t8 t9 hg7 hgr2 HG2
              have e0 : (u0 != u0) = false := by simp
              have e1 : (u1 != u1) = false := by simp
              have e2 : (u2' != u2') = false := by simp
              apply wp_region_lex_lit 14 (by kernel_rfl) (by kernel_rfl)
              iterate 14
                apply lex_pin
                · intro wq hgq hdq Kq hKq
                  obtain ⟨p0, p1, p2, p3⟩ := HB.out.grows (HGR.out.step (HG7.out.drew'.step hgq))
                  obtain ⟨c0', c1', c2', c3'⟩ := HC.out.grows ((Grows.rfl' _).drew'.step hgq)
                  go_wp2_with ((go_at_call 12; refine (HRD.out _ (HG.out.step (HGR.out.step (HG7.out.drew'.step hgq)))).mono ?_); rintro e wq' ⟨rfl, hgq'⟩)
                  first | exact hKq _ (Grows.rfl' _) | exact hKq _ hgq'
                · kernel_rfl
              refine lex_end ?_
              intro w9 hg9 _
              have hg := HG7.out.drew'.step hg9
              clear hg9
              go_wp2_with fail
              go_roundw
              case rel => exact ⟨x + 1, by omega, by omega, rfl, hg⟩
              case measure => simp [intOf]; omega
            · have hb2 : decide (x < min c c') = false := decide_eq_false hxc
              go_wp2_with fail
              go_roundw
              case rel => exact ⟨y + 1, by have := HY.out; omega, by have := HY.out; omega, rfl, HG2.out⟩
              case measure => have := HY.out; simp [intOf]; omega
        · have hb1 : decide (y < min d d') = false := decide_eq_false hyd
          go_wp2_with fail
          go_ret
          exact ⟨rfl, HG.out.step hgr⟩
    · have HF := Lib.hid hf
      clear hf
      go_wp2_with fail
      refine (plainY_no _ _ _ _ _ _ HF.out ha hb).mono ?_
      rintro e w5 ⟨rfl, hg5⟩
      go_wp2_with fail
      go_ret
      exact ⟨rfl, HG.out.step hg5⟩
  · have HM := Lib.hid hm
    clear hm
    apply wp_region_flo_lit 9 (by kernel_rfl) (by kernel_rfl)
    iterate 7
      apply flo_pin
      · intro wq hgq hdq Kq hKq
        obtain ⟨p0, p1, p2, p3⟩ := HB.out.grows ((Grows.rfl' _).drew'.step hgq)
        obtain ⟨n0', n1', n2', n3'⟩ := HN.out.grows ((Grows.rfl' _).drew'.step hgq)
        go_wp2_with ((first | (go_at_call 7; refine (asRect_any _ _ _ _ _).mono ?_) | (go_at_call 8; refine (common_no _ _ _ _ _ _ _ _ _ HM.out).mono ?_)); rintro e wq' ⟨rfl, hgq'⟩)
        first | exact hKq _ (Grows.rfl' _) | exact hKq _ hgq'
      · kernel_rfl
      intro _
    apply flo_any (RectBox w2) RectBox.keep
    · intro wq hgq hdq Kq hKq
      have hsz4 : w2.heap.size ≤ wq.heap.size := hgq.size
      go_wp2
      exact hKq _ _ ((Grows.rfl' _).alloc' _) ⟨wq.heap.size, rfl, hsz4, _, _, _, _, heap_alloc_new _ _⟩
    · kernel_rfl
    intro vx
    simp only [Act.put, List.setIfInBounds_toArray, List.set_cons_succ, List.set_cons_zero]
    apply flo_put 7 vx (RectIn w2 (0) (0) (0) (0)) RectIn.keep rfl rfl (by kernel_rfl)
    · intro wq hgq hdq Kq hKq
      obtain ⟨rb, rfl, hrb, r1, r2, r3, r4, kb⟩ := hdq 7 _ rfl (by kernel_rfl)
      clear hdq
      have KS := Lib.hid ((((kb.set0 (0)).set1 (0)).set2 (0)).set3 (0))
      have HGS := Lib.hid ((((hgq.set' (p := ⟨rb, 0, none⟩) hrb (.int .i64 (0))).set' (p := ⟨rb, 1, none⟩) hrb (.int .i64 (0))).set' (p := ⟨rb, 2, none⟩) hrb (.int .i64 (0))).set' (p := ⟨rb, 3, none⟩) hrb (.int .i64 (0)))
      obtain ⟨k0, k1, k2, k3⟩ := kb.cells
      have kf := kb.frozen
      clear kb
      go_wp2
      refine hKq _ HGS.out ?_ ⟨rb, rfl, hrb, KS.out⟩
      repeat' first | exact Keeps.nil | refine Keeps.idle ?_ | refine Keeps.snoc ?_ ?_
      intro h
      exact ⟨rb, rfl, hrb, _, _, _, _, KS.out⟩
    · kernel_rfl
    intro _
    refine flo_end ?_
    intro w3 hg3 hd3
    obtain ⟨rb, rfl, hrb, kb⟩ := hd3 8 _ rfl
    clear hd3
    have HGS : Hid (Grows w2 w3) := (Grows.rfl' _).drew'.step hg3
    have KS := Lib.hid kb
    clear hg3 kb
    go_upto_region 3 with fail
    replace HB := Lib.hid (HB.out.grows HGS.out)
    replace HN := Lib.hid (HN.out.grows HGS.out)
    replace HR0 := Lib.hid (HR0.out.grows HGS.out)
    replace HG := Lib.hid (HG.out.step HGS.out)
    obtain ⟨r0, r1, r2, r3⟩ := HR0.out
    by_cases hf : PlainY a b c d r
    · have HF := Lib.hid hf
      clear hf
      go_wp2_with fail
      refine (plainY_yes _ _ _ _ _ _ HF.out).mono ?_
      rintro e w5 ⟨rfl, hg5⟩
      go_wp2_with fail
      go_ret
      exact ⟨rfl, HG.out.step hg5⟩
    · have HF := Lib.hid hf
      clear hf
      go_wp2_with fail
      refine (plainY_no _ _ _ _ _ _ HF.out ha hb).mono ?_
      rintro e w5 ⟨rfl, hg5⟩
      go_wp2_with fail
      go_ret
      exact ⟨rfl, HG.out.step hg5⟩

set_option linter.unusedVariables false
set_option maxRecDepth 100000 in
theorem lifted (os : Os) (started : os.Started) (H : Type) (enc : TypeId × Value → H) :
    ReturnsInHanded {} Try.checked os 3 .any (Rows.fnYCbCrSubSpec.pre6 enc Try.prog Try.f3 Rows.fnYCbCrSubRow.domain false) (Rows.fnYCbCrSubSpec.post enc Try.prog Try.f3 false true false false) := by
  refine returnsInHanded_of_change_sized (C := Try.checked) own started (by kernel_rfl) Try.func3
    (ChangeSpec.witness6 (enc := enc) (C := Try.checked) false ⟨#[], #[.agg #[.int .i64 0, .int .i64 0, .int .i64 0, .int .i64 0], .int .i64 0, .slice none 0 0, .slice none 0 0, .slice none 0 0, .agg #[.int .i64 0, .int .i64 0, .int .i64 0, .int .i64 0]], []⟩ 8 (by kernel_rfl) (by kernel_rfl) (by kernel_rfl) (by kernel_rfl)) ?_
  intro W base args ds gs before hval0 hW hcnd hsz0 _
  have hval : ∀ (j : Nat) t v, Try.f3.params[j]? = some t → args[j]? = some v → Value.okWide Try.prog W .any base t v := hval0
  have hsz : (DataW.weightsEach Try.prog (Try.f3.params.toList ++ Rows.fnYCbCrSubSpec.plain.varTypes Try.prog) (ds ++ gs)).all (· ≤ reachBytes) = true := hsz0
  clear hsz0
  have hW' := hW
  obtain ⟨p, q, hA0, hV, rfl, hfz, hnd⟩ := hW
  have hA : DataW.TrodAll enc Try.prog W 0 (fun _ => true) true Try.f3.params.toList args.toList ds p := hA0
  rw [Try.params3] at hA hval hsz
  obtain ⟨v0, vs0, d0, ds0, p0, q0, hargs, rfl, rfl, h0, r0⟩ := trodAll_cons hA
  obtain ⟨v1, vs1, d1, ds1, p1, q1, rfl, rfl, rfl, h1, r1⟩ := trodAll_cons r0
  obtain ⟨v2, vs2, d2, ds2, p2, q2, rfl, rfl, rfl, h2, r2⟩ := trodAll_cons r1
  obtain ⟨v3, vs3, d3, ds3, p3, q3, rfl, rfl, rfl, h3, r3⟩ := trodAll_cons r2
  obtain ⟨v4, vs4, d4, ds4, p4, q4, rfl, rfl, rfl, h4, r4⟩ := trodAll_cons r3
  obtain ⟨v5, vs5, d5, ds5, p5, q5, rfl, rfl, rfl, h5, r5⟩ := trodAll_cons r4
  obtain ⟨rfl, rfl, rfl⟩ := trodAll_nil r5
  obtain rfl : args = #[v0, v1, v2, v3, v4, v5] := by cases args; simp_all
  obtain ⟨rfl, rfl⟩ := trodVars_none hV
  have k0 := h0
  have lt0 : ∀ x ∈ p0, x.block < W.heap.size := by obtain ⟨m, hm⟩ := k0; exact DataW.trod_lt m _ _ _ hm
  have k1 := h1
  have lt1 : ∀ x ∈ p1, x.block < W.heap.size := by obtain ⟨m, hm⟩ := k1; exact DataW.trod_lt m _ _ _ hm
  have k2 := h2
  have lt2 : ∀ x ∈ p2, x.block < W.heap.size := by obtain ⟨m, hm⟩ := k2; exact DataW.trod_lt m _ _ _ hm
  have k3 := h3
  have lt3 : ∀ x ∈ p3, x.block < W.heap.size := by obtain ⟨m, hm⟩ := k3; exact DataW.trod_lt m _ _ _ hm
  have k4 := h4
  have lt4 : ∀ x ∈ p4, x.block < W.heap.size := by obtain ⟨m, hm⟩ := k4; exact DataW.trod_lt m _ _ _ hm
  have k5 := h5
  have lt5 : ∀ x ∈ p5, x.block < W.heap.size := by obtain ⟨m, hm⟩ := k5; exact DataW.trod_lt m _ _ _ hm
  obtain ⟨s0a, s0b, s0c, s0d, rfl, ⟨b0a, b0b, b0c, b0d⟩⟩ := open_four Try.underlying23 (by kernel_rfl) cells23 (hval 0 23 v0 rfl rfl) h0
  obtain ⟨x1, rfl, he1, _, w1⟩ := open_int Try.underlying3 (hval 1 3 v1 rfl rfl) h1
  obtain ⟨z2, hz2⟩ := open_list (hval 2 24 v2 rfl rfl) h2 (fun el sp hd => by subst hd; exact sized_slice hsz (j := 2) (t := 24) (e := 3) rfl rfl Try.underlying24)
  obtain ⟨z3, hz3⟩ := open_list (hval 3 24 v3 rfl rfl) h3 (fun el sp hd => by subst hd; exact sized_slice hsz (j := 3) (t := 24) (e := 3) rfl rfl Try.underlying24)
  obtain ⟨z4, hz4⟩ := open_list (hval 4 24 v4 rfl rfl) h4 (fun el sp hd => by subst hd; exact sized_slice hsz (j := 4) (t := 24) (e := 3) rfl rfl Try.underlying24)
  obtain ⟨s5a, s5b, s5c, s5d, rfl, ⟨b5a, b5b, b5c, b5d⟩⟩ := open_four Try.underlying23 (by kernel_rfl) cells23 (hval 5 23 v5 rfl rfl) h5
  refine (walk s0a s0b s0c s0d x1 v2 z2 v3 z3 v4 z4 s5a s5b s5c s5d W b0a b0b b0c b0d (bounds_i64 w1) hz2 hz3 hz4 b5a b5b b5c b5d).mono fun e W' ⟨he, bel⟩ => ?_
  subst he
  exact ⟨_, rfl, _, _, _, [], _, [], hW', trodAll_mk1 (shut_bool Try.underlying4 _), (trodAll_cons_mk (Below.trod laidOut (by kernel_rfl) (of_decide_eq_true (by kernel_rfl)) k0 bel lt0) (trodAll_cons_mk (Below.trod laidOut (by kernel_rfl) (of_decide_eq_true (by kernel_rfl)) k1 bel lt1) (trodAll_cons_mk (Below.trod laidOut (by kernel_rfl) (of_decide_eq_true (by kernel_rfl)) k2 bel lt2) (trodAll_cons_mk (Below.trod laidOut (by kernel_rfl) (of_decide_eq_true (by kernel_rfl)) k3 bel lt3) (trodAll_cons_mk (Below.trod laidOut (by kernel_rfl) (of_decide_eq_true (by kernel_rfl)) k4 bel lt4) (trodAll_cons_mk (Below.trod laidOut (by kernel_rfl) (of_decide_eq_true (by kernel_rfl)) k5 bel lt5) trodAll_mk0)))))), rfl, bel.frame _, fun h => by cases h⟩

theorem proved : Rows.FnYCbCrSubSaid :=
  OpenClaim.holds_of_wide 3 Try.f3 rfl rfl rfl rfl rfl rfl rfl ⟨rfl, rfl, rfl, rfl, rfl⟩ rfl rfl rfl rfl rfl (by kernel_rfl) Try.func3 (by kernel_rfl)
    (of_decide_eq_true (by kernel_rfl)) (by unfold Func.isWrapper; first | (rw [if_pos (by decide +kernel)]; kernel_rfl) | (rw [if_neg (by decide +kernel)]; exact ⟨rfl, rfl⟩))
    (fun os started H enc _ => lifted os started H enc)
#print axioms proved
end Go.Proofs.Ytbmpjehahimelaa.lawYCbCrSub

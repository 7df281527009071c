/-
  The contract of the reference's CMYKRun. Conditions: the rectangle is fine.
-/
import Derived.Test.YtbedollfokdldaaSpecRun
namespace Go.Proofs.Ytbedollfokdldaa
open Go.RowKit
set_option linter.unusedVariables false

/-- The result of the reference's CMYKRun. -/
def FamOut (a b c d : Int) (S : St) (W : World) (e : Ending) (w' : World) : Prop :=
  ∃ vc vo g offs, e = .returned (.tuple #[vc, vo, .agg #[.int .i64 a, .int .i64 b, .int .i64 c, .int .i64 d, .int .i64 (sd a c 4), .slice (some ⟨g, 0, none⟩) (total a b c d 4) (total a b c d 4)]]) ∧ OwnC W w' vc S.2.2.1 ∧ Ix w' g (total a b c d 4) S.2.1 ∧ OwnI W w' vo offs ∧
    (S.2.2.2.2 = true → offs = S.2.2.2.1) ∧ (offs.length ≤ 1600000000000 ∧ ∀ n ∈ offs, -9223372036854775808 ≤ n ∧ n ≤ 9223372036854775807)

theorem take_snocL {cs : List (List Int)} {k : Nat} {l : List Int} (h : cs[k]? = some l) : cs.take (k + 1) = cs.take k ++ [l] := by
  rw [List.take_add_one, h]; rfl
theorem list_lit {l : List Int} (h : l.length = 4) : l = [l.getD 0 0, l.getD 1 0, l.getD 2 0, l.getD 3 0] := by
  match l, h with
  | [p, q, r, s], _ => rfl

/-- One color in a block of its own. -/
def OneCol (u0 u1 u2 u3 : Int) (v : Value) (w : World) : Prop := ∃ g, v = .slice (some ⟨g, 0, none⟩) 1 1 ∧ BoxAt w g u0 u1 u2 u3
theorem OneCol.keep {u0 u1 u2 u3 : Int} (v : Value) (w w' : World) (hg : Grows w w') (h : OneCol u0 u1 u2 u3 v w) : OneCol u0 u1 u2 u3 v w' := by
  obtain ⟨g, h1, h2⟩ := h
  exact ⟨g, h1, h2.grows hg⟩

set_option maxRecDepth 20000 in
set_option maxHeartbeats 4000000 in
theorem specFam (a b c d : Int) (v : Value) (zs : List Int) (vs : Value) (ss : List Stp) (w : World) (hf : Fine a b c d) (h : RdI w v zs) (hs : RdS w vs ss) :
    Calls Try.prog 15 #[box4 a b c d, v, vs] w (FamOut a b c d (runF a b c d 4 (byteAt zs) ss) w) := by
  have HR := Lib.hid h
  have HF := Lib.hid hf
  have HS := Lib.hid hs
  have HOK := Lib.hid (runF_okay (k := 4) (f := byteAt zs) ⟨hf.2.2.1.1, hf.2.2.1.2⟩ (byteAt_in zs) ss ss.length (Nat.le_refl _))
  rw [List.take_length] at HOK
  obtain ⟨A, cc, rfl, _⟩ := h
  obtain ⟨A1, c1, rfl, hs1, hs2, hs3, _⟩ := hs
  clear hf
  go_enter Try.func15, Try.ntmps15
  go_upto_region 1 with fail
  have HGW : Hid (Grows w ((w.alloc (.cells #[.int .i64 a, .int .i64 b, .int .i64 c, .int .i64 d] 26)).alloc (.cells #[.int .i64 0, .int .i64 0, .int .i64 0, .int .i64 0, .int .i64 0, .slice none 0 0] 34))) := ((Grows.rfl' w).alloc' _).alloc' _
  have HRB : Hid (BoxAt ((w.alloc (.cells #[.int .i64 a, .int .i64 b, .int .i64 c, .int .i64 d] 26)).alloc (.cells #[.int .i64 0, .int .i64 0, .int .i64 0, .int .i64 0, .int .i64 0, .slice none 0 0] 34)) w.heap.size a b c d) := BoxAt.grows ⟨cell_top rfl rfl, cell_top rfl rfl, cell_top rfl rfl, cell_top rfl rfl⟩ ((Grows.rfl' _).alloc' _)
  have hszW : ((w.alloc (.cells #[.int .i64 a, .int .i64 b, .int .i64 c, .int .i64 d] 26)).alloc (.cells #[.int .i64 0, .int .i64 0, .int .i64 0, .int .i64 0, .int .i64 0, .slice none 0 0] 34)).heap.size = w.heap.size + 2 := by simp
  have hb0 : ((w.alloc (.cells #[.int .i64 a, .int .i64 b, .int .i64 c, .int .i64 d] 26)).alloc (.cells #[.int .i64 0, .int .i64 0, .int .i64 0, .int .i64 0, .int .i64 0, .slice none 0 0] 34)).heap[w.heap.size + 1]? = some (.cells #[.int .i64 0, .int .i64 0, .int .i64 0, .int .i64 0, .int .i64 0, .slice none 0 0] 34 (0, 0)) := heap_top (by simp)
  have HBX := Lib.hid hb0
  clear hb0
  generalize ((w.alloc (.cells #[.int .i64 a, .int .i64 b, .int .i64 c, .int .i64 d] 26)).alloc (.cells #[.int .i64 0, .int .i64 0, .int .i64 0, .int .i64 0, .int .i64 0, .slice none 0 0] 34)) = W at *
  obtain ⟨q0, q1, q2, q3⟩ := HRB.out
  go_wp2_with fail
  refine (specRun a b c d _ zs _ ss W HF.out (HR.out.grows HGW.out) (HS.out.grows HGW.out)).mono ?_
  rintro e w1 ⟨vl, vo, g, offs, rfl, hix, hgW, hcols, hoffs, hok, hol⟩
  generalize runF a b c d 4 (byteAt zs) ss = S at *
  have HGR : Hid (Grows W w1) := hoffs.2
  have HOL := Lib.hid (And.intro hok hol)
  obtain ⟨vals, hov, hrows⟩ := hcols
  obtain ⟨Ao, ko, hvo⟩ := hoffs.form
  have hvlf : ∃ A c, vl = .slice A S.2.2.1.length c := by
    rcases hov.2 with ⟨rfl, h0⟩ | ⟨g2, cap, cur, hv, _⟩
    · exact ⟨none, 0, by rw [h0]⟩
    · exact ⟨_, _, hv⟩
  obtain ⟨Al, kl, hvl⟩ := hvlf
  subst hvo hvl
  have HVR := Lib.hid (And.intro hov hrows)
  have HIX := Lib.hid hix
  have HOO := Lib.hid hoffs
  clear q0 q1 q2 q3 hix hov hrows hoffs hok hol HRB HS HR
  go_upto_region 2 with fail
  have HPIC : Hid (PicAt (w1.alloc (.cells #[.int .i64 a, .int .i64 b, .int .i64 c, .int .i64 d, .int .i64 (sd a c 4), .slice (some ⟨g, 0, none⟩) (total a b c d 4) (total a b c d 4)] 34)) w1.heap.size a b c d (sd a c 4) (.slice (some ⟨g, 0, none⟩) (total a b c d 4) (total a b c d 4))) := heap_alloc_new _ _
  have HG1 : Hid (Grows w1 (w1.alloc (.cells #[.int .i64 a, .int .i64 b, .int .i64 c, .int .i64 d, .int .i64 (sd a c 4), .slice (some ⟨g, 0, none⟩) (total a b c d 4) (total a b c d 4)] 34))) := (Grows.rfl' _).alloc' _
  generalize w1.alloc (.cells #[.int .i64 a, .int .i64 b, .int .i64 c, .int .i64 d, .int .i64 (sd a c 4), .slice (some ⟨g, 0, none⟩) (total a b c d 4) (total a b c d 4)] 34) = W1 at *
  generalize w1.heap.size = ab at *
  go_wp2_with fail
  go_loopw [12, 14, 25] (fun vcol _ iv wr => ∃ j : Nat, j ≤ S.2.2.1.length ∧ iv = .int .i64 j ∧ OwnC W1 wr vcol (S.2.2.1.take j)) (fun _ _ iv _ => S.2.2.1.length - (intOf iv).toNat)
  case atStart => exact ⟨0, Nat.zero_le _, rfl, OwnC.nil (Grows.rfl' _)⟩
  case round =>
    obtain ⟨j, hj, rfl, hown⟩ := hrel
    have HO := Lib.hid hown
    clear hown
    by_cases hlt : j < S.2.2.1.length
    · have he : S.2.2.1[j]? = some S.2.2.1[j] := List.getElem?_eq_getElem hlt
      have HTS := Lib.hid (take_snocL he)
      have hll : (S.2.2.1.take j).length ≤ j := List.length_take_le _ _
      have hcn := HOK.out.2.2.1
      obtain ⟨hlk, _⟩ := HOK.out.2.2.2.1 _ (List.getElem_mem hlt)
      obtain ⟨gj, hv, hixj, _⟩ := HVR.out.2 j _ he
      have hcl : ∃ gl, Al = some ⟨gl, 0, none⟩ ∧ w1.cell? ⟨gl, j, none⟩ = some (.slice (some ⟨gj, 0, none⟩) 4 4) := by
        have hov := HVR.out.1
        rcases hov.2 with ⟨_, h0⟩ | ⟨gl, cap, cur, hvv, _⟩
        · omega
        · simp only [Value.slice.injEq] at hvv
          obtain ⟨rfl, _, rfl⟩ := hvv
          refine ⟨gl, rfl, ?_⟩
          have := hov.cells (g := gl) rfl j _ hv
          have e : (⟨gl, 0, none⟩ : Addr).add j = ⟨gl, j, none⟩ := by unfold Addr.add; split <;> simp_all
          rwa [e] at this
      obtain ⟨gl, rfl, hcell⟩ := hcl
      have hgr := HG1.out.step HO.out.2
      have hcell2 := hgr.cell_some hcell
      have hixw := hixj.grows hgr
      have r0 := hixw.cell (i := 0) (by omega)
      have r1 := hixw.cell (i := 1) (by omega)
      have r2 := hixw.cell (i := 2) (by omega)
      have r3 := hixw.cell (i := 3) (by omega)
      have HLL := Lib.hid (list_lit hlk)
      have hb3 : decide ((j : Int) < S.2.2.1.length) = true := decide_eq_true (by omega)
      generalize S.2.2.1[j] = l at *
      try simp only at r0 r1 r2 r3
      generalize l.getD 0 0 = u0 at *
      generalize l.getD 1 0 = u1 at *
      generalize l.getD 2 0 = u2 at *
      generalize l.getD 3 0 = u3 at *
      generalize S.2.2.1.take j = L at *
      clear hcell he hgr hixj hixw hv
      have HRW : Hid (BoxAt wr gj u0 u1 u2 u3) := ⟨r0, r1, r2, r3⟩
      clear r0 r1 r2 r3
      go_upto_region 6 with fail
      clear hcell2
      apply wp_region_lex_lit 15 (by kernel_rfl) (by kernel_rfl)
      iterate 14
        apply lex_pin
        · intro wq hgq hdq Kq hKq
          obtain ⟨r0, r1, r2, r3⟩ := HRW.out.grows ((Grows.rfl' _).drew'.step hgq)
          go_wp2
          exact hKq _ (Grows.rfl' _)
        · kernel_rfl
      apply lex_any (OneCol u0 u1 u2 u3) OneCol.keep
      · intro wq hgq hdq Kq hKq
        clear hdq
        go_wp2
        exact hKq _ _ ((Grows.rfl' _).alloc' _) ⟨wq.heap.size, rfl, cell_top rfl rfl, cell_top rfl rfl, cell_top rfl rfl, cell_top rfl rfl⟩
      intro vst
      simp only [Act.put, List.setIfInBounds_toArray, List.set_cons_succ, List.set_cons_zero]
      refine lex_end ?_
      intro w3 hg3 hd3
      obtain ⟨g1, rfl, hst⟩ := hd3 14 _ rfl
      have HST := Lib.hid hst
      have HC4 := Lib.hid (HO.out.later ((Grows.rfl' _).drew'.step hg3))
      clear hd3 hg3 hst
      go_wp2_with (at_builtin; refine pushC_at rfl _ _ rfl W1 _ L [u0, u1, u2, u3] rfl rfl HC4.out g1 rfl (by intro i m hi; match i, hi with | 0, hi => simp at hi; subst hi; exact HST.out.1 | 1, hi => simp at hi; subst hi; exact HST.out.2.1 | 2, hi => simp at hi; subst hi; exact HST.out.2.2.1 | 3, hi => simp at hi; subst hi; exact HST.out.2.2.2 | i + 4, hi => simp at hi) (by omega) ?_; intro vc' w4 hC4 _ _)
      go_roundw
      case rel => exact ⟨j + 1, by omega, by go_num, by rw [HTS.out, HLL.out]; exact hC4⟩
      case measure => simp [intOf]; omega
    · have HX : Hid (S.2.2.1.take j = S.2.2.1) := List.take_of_length_le (by omega)
      have hb3 : decide ((j : Int) < S.2.2.1.length) = false := decide_eq_false (by omega)
      rw [HX.out] at HO
      obtain ⟨Ac, kc, hvc⟩ := HO.out.form
      subst hvc
      go_upto_region 8 with fail
      apply wp_region_lex_lit 5 (by kernel_rfl) (by kernel_rfl)
      iterate 5
        apply lex_pin
        · intro wq hgq hdq Kq hKq
          obtain ⟨t0, t1, t2, t3, t4, t5⟩ := (HPIC.out.grows (HO.out.2.drew'.step hgq)).cells
          go_wp2
          exact hKq _ (Grows.rfl' _)
        · kernel_rfl
      refine lex_end ?_
      intro w5 hg5 _
      have hg5' : Grows wr w5 := (Grows.rfl' _).drew'.step hg5
      have hg15 : Grows w1 w5 := HG1.out.step (HO.out.2.step hg5')
      have hgW5 : Grows W w5 := HGR.out.step hg15
      have hb4 : w5.heap[w.heap.size + 1]? = some (.cells #[.int .i64 0, .int .i64 0, .int .i64 0, .int .i64 0, .int .i64 0, .slice none 0 0] 34 (0, 0)) := (hgW5.block _ (by omega)).trans HBX.out
      obtain ⟨e0, e1, e2, e3, e4, e5⟩ := block_cells hb4
      have z5 := block_frozen hb4
      have HO6 := Lib.hid (stored_own ((HOO.out.later hg15).base HGW.out) hb4 (by omega) (.int .i64 a) (.int .i64 b) (.int .i64 c) (.int .i64 d) (.int .i64 (sd a c 4)) (.slice (some ⟨g, 0, none⟩) (total a b c d 4) (total a b c d 4)))
      have HC6 := Lib.hid (stored_ownC ((HO.out.later hg5').base (HGW.out.step (HGR.out.step HG1.out))) hb4 (by omega) (.int .i64 a) (.int .i64 b) (.int .i64 c) (.int .i64 d) (.int .i64 (sd a c 4)) (.slice (some ⟨g, 0, none⟩) (total a b c d 4) (total a b c d 4)))
      have HXX : Hid (Ix (stored w5 (w.heap.size + 1) (.int .i64 a) (.int .i64 b) (.int .i64 c) (.int .i64 d) (.int .i64 (sd a c 4)) (.slice (some ⟨g, 0, none⟩) (total a b c d 4) (total a b c d 4))) g (total a b c d 4) S.2.1) := by
        have hx := HIX.out.grows hg15
        exact hx.block ((stored_grown _ _ _ _ _ _).block g hx.lt fun e => by simp only [Option.some.injEq] at e; omega)
      clear hb4 hgW5 hg15 hg5' hg5 HPIC HGR HBX HF HO HOO HIX HVR HX
      go_wp2_with fail
      exact bodyPost_ret (v := .tuple #[.slice Ac S.2.2.1.length kc, .slice Ao offs.length ko, .agg #[.int .i64 a, .int .i64 b, .int .i64 c, .int .i64 d, .int .i64 (sd a c 4), .slice (some ⟨g, 0, none⟩) (total a b c d 4) (total a b c d 4)]]) (by simp [results, Try.results15, go_sem, e0, e1, e2, e3, e4, e5]) rfl ⟨_, _, g, offs, rfl, HC6.out, HXX.out, HO6.out, HOL.out⟩
end Go.Proofs.Ytbedollfokdldaa

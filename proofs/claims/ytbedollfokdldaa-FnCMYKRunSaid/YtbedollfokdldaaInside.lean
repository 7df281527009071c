/-
  The contract of the reference's Inside: whether each step of a script is at a point that is visible then. Conditions: the rectangle is fine, the steps read as a list.
-/
import Derived.Test.YtbedollfokdldaaRun
import Derived.Test.YtbedollfokdldaaInter
import Derived.Deep.Cut
import Derived.Deep.CutRange
namespace Go.Proofs.Ytbedollfokdldaa
open Go.RowKit
set_option linter.unusedVariables false

theorem foldl_no {a b c d : Int} {k : Nat} (ss : List Stp) : ∀ S : St, S.2.2.2.2 = false → (ss.foldl (stp a b c d k) S).2.2.2.2 = false := by
  induction ss with
  | nil => exact fun S h => h
  | cons s t ih =>
    intro S h
    refine ih _ ?_
    obtain ⟨v, f, cols, offs, ok⟩ := S
    obtain ⟨kd, x, y, q, r⟩ := s
    simp only at h
    subst h
    unfold stp
    simp only
    repeat' split
    all_goals simp
/-- Once a step is not visible, the script is not. -/
theorem runF_no {a b c d : Int} {k : Nat} {f : Nat → Int} {ss : List Stp} {j : Nat} (h : (runF a b c d k f (ss.take j)).2.2.2.2 = false) : (runF a b c d k f ss).2.2.2.2 = false := by
  have e : runF a b c d k f ss = (ss.drop j).foldl (stp a b c d k) (runF a b c d k f (ss.take j)) := by
    unfold runF
    rw [← List.foldl_append, List.take_append_drop]
  rw [e]
  exact foldl_no _ _ h

/-- What a round of Inside's loop has. -/
def LoopI (sb : Nat) (W w : World) (S : St) (sv : Value) : Prop :=
  ∃ so, Blk4 w sb 26 S.1.1 S.1.2.1 S.1.2.2.1 S.1.2.2.2 ∧ (sv = .bool so ∧ (so = false → S.1 = (0, 0, 0, 0))) ∧ S.2.2.2.2 = true ∧ Grows W w

section
variable {sb : Nat} {W w w' : World} {v : Bx} {f : Nat → Int} {cols : List (List Int)} {offs : List Int} {ok : Bool} {sv : Value}
theorem LoopI.grows (h : LoopI sb W w (v, f, cols, offs, ok) sv) (hg : Grows w w') : LoopI sb W w' (v, f, cols, offs, ok) sv := by
  obtain ⟨so, h1, h2, h3, h4⟩ := h
  exact ⟨so, h1.grows hg, h2, h3, h4.step hg⟩
theorem LoopI.same {f' : Nat → Int} {cols' : List (List Int)} {offs' : List Int} {q : Bool} (h : LoopI sb W w (v, f, cols, offs, ok) sv) (hq : q = true) : LoopI sb W w (v, f', cols', offs', ok && q) sv := by
  obtain ⟨so, h1, h2, h3, h4⟩ := h
  simp only at h3
  exact ⟨so, h1, h2, by simp [h3, hq], h4⟩
theorem LoopI.view {u : Bx} {so : Bool} (h : LoopI sb W w (v, f, cols, offs, ok) sv) (hsW : W.heap.size ≤ sb) (hB : Blk4 w' sb 26 u.1 u.2.1 u.2.2.1 u.2.2.2) (hg : w.grownBy w' (some sb)) (hso : so = false → u = (0, 0, 0, 0)) : LoopI sb W w' (u, f, cols, offs, ok) (.bool so) := by
  obtain ⟨so', h1, h2, h3, h4⟩ := h
  exact ⟨so, hB, ⟨rfl, hso⟩, h3, h4.grown' hg (fun k hk => by simp only [Option.some.injEq] at hk; omega)⟩
end

set_option maxRecDepth 20000 in
set_option maxHeartbeats 8000000 in
theorem inside_any (a b c d : Int) (f0 : Nat → Int) (vs : Value) (ss : List Stp) (w : World) (hf : Fine a b c d) (hs : RdS w vs ss) :
    Calls Try.prog 13 #[box4 a b c d, vs] w fun e w' => e = .returned (.bool (runF a b c d 4 f0 ss).2.2.2.2) ∧ Grows w w' := by
  obtain ⟨A1, c1, rfl, hs1, hs2, hs3, hs4, hs5⟩ := hs
  have HS5 := Lib.hid hs5
  clear hf hs4 hs5
  go_enter Try.func13, Try.ntmps13
  go_upto_region 1 with fail
  have HGW : Hid (Grows w (w.alloc (.cells #[.int .i64 a, .int .i64 b, .int .i64 c, .int .i64 d] 26))) := (Grows.rfl' w).alloc' _
  have HRB : Hid (BoxAt (w.alloc (.cells #[.int .i64 a, .int .i64 b, .int .i64 c, .int .i64 d] 26)) w.heap.size a b c d) := ⟨cell_top rfl rfl, cell_top rfl rfl, cell_top rfl rfl, cell_top rfl rfl⟩
  generalize w.alloc (.cells #[.int .i64 a, .int .i64 b, .int .i64 c, .int .i64 d] 26) = W at *
  obtain ⟨q0, q1, q2, q3⟩ := HRB.out
  go_upto_region 2 with fail
  have HL0 : Hid (LoopI W.heap.size W (W.alloc (.cells #[.int .i64 a, .int .i64 b, .int .i64 c, .int .i64 d] 26)) (runF a b c d 4 f0 (ss.take 0)) (.bool true)) := ⟨true, heap_alloc_new _ _, ⟨rfl, by simp⟩, rfl, (Grows.rfl' _).alloc' _⟩
  have hsbW : W.heap.size ≤ W.heap.size := Nat.le_refl _
  clear q0 q1 q2 q3
  generalize W.alloc (.cells #[.int .i64 a, .int .i64 b, .int .i64 c, .int .i64 d] 26) = w2 at *
  obtain ⟨sb, hsb⟩ : ∃ sb, sb = W.heap.size := ⟨_, rfl⟩
  have hsb2 : W.heap.size ≤ sb := by omega
  rw [← hsb] at HL0 ⊢
  clear hsb hsbW
  go_wp2_with fail
  go_loopw [6, 8, 12, 18] (fun sv _ iv _ wr => ∃ j : Nat, j ≤ ss.length ∧ iv = .int .i64 j ∧ LoopI sb W wr (runF a b c d 4 f0 (ss.take j)) sv) (fun _ _ iv _ _ => ss.length - (intOf iv).toNat)
  case atStart => exact ⟨0, Nat.zero_le _, rfl, HL0.out⟩
  case round =>
    obtain ⟨j, hj, rfl, hlv⟩ := hrel
    clear HL0
    by_cases hlt : j < ss.length
    · have he : ss[j]? = some ss[j] := List.getElem?_eq_getElem hlt
      have HN := Lib.hid (runF_snoc a b c d 4 f0 he)
      have HNO := Lib.hid (fun (h : (runF a b c d 4 f0 (ss.take (j + 1))).2.2.2.2 = false) => runF_no h)
      obtain ⟨bb, oo, rfl, hcell⟩ := HS5.out j _ he
      have hb3 : decide ((j : Int) < ss.length) = true := decide_eq_true (by omega)
      generalize runF a b c d 4 f0 (ss.take j) = S at *
      generalize ss[j] = s at *
      obtain ⟨t, x, y, ⟨r, g', bl, al⟩, ⟨x0, y0, x1, y1⟩⟩ := s
      obtain ⟨v, f, cols, offs', ok⟩ := S
      obtain ⟨A', B', C', D'⟩ := v
      have hso : ∃ so, u6 = .bool so ∧ (so = false → ((A', B', C', D') : Bx) = (0, 0, 0, 0)) := by
        obtain ⟨so, _, h2, _⟩ := hlv
        exact ⟨so, h2⟩
      obtain ⟨so, rfl, hso0⟩ := hso
      have hgr := HGW.out.step hlv.choose_spec.2.2.2
      have cc0 := hgr.cell_some (hcell 0 _ rfl)
      have cc1 := hgr.cell_some (hcell 1 _ rfl)
      have cc2 := hgr.cell_some (hcell 2 _ rfl)
      have cc3 := hgr.cell_some (hcell 3 _ rfl)
      have cc4 := hgr.cell_some (hcell 4 _ rfl)
      have cc5 := hgr.cell_some (hcell 5 _ rfl)
      have cc6 := hgr.cell_some (hcell 6 _ rfl)
      have cc7 := hgr.cell_some (hcell 7 _ rfl)
      have cc8 := hgr.cell_some (hcell 8 _ rfl)
      have cc9 := hgr.cell_some (hcell 9 _ rfl)
      have cc10 := hgr.cell_some (hcell 10 _ rfl)
      simp only [Nat.add_zero] at cc0
      have HSO := Lib.hid hso0
      have HLV := Lib.hid hlv
      clear hlv hcell he hgr hso0
      go_upto_region 5 with fail
      clear cc0 cc1 cc2 cc3 cc4 cc5 cc6 cc7 cc8 cc9 cc10
      have hga : Grows wr (wr.alloc (.cells #[.int .i64 t, .int .i64 x, .int .i64 y, .int .i64 r, .int .i64 g', .int .i64 bl, .int .i64 al, .int .i64 x0, .int .i64 y0, .int .i64 x1, .int .i64 y1] 48)) := (Grows.rfl' _).alloc' _
      have HSB : Hid (StpAt (wr.alloc (.cells #[.int .i64 t, .int .i64 x, .int .i64 y, .int .i64 r, .int .i64 g', .int .i64 bl, .int .i64 al, .int .i64 x0, .int .i64 y0, .int .i64 x1, .int .i64 y1] 48)) wr.heap.size (t, x, y, (r, g', bl, al), (x0, y0, x1, y1))) := StpAt.top (t, x, y, (r, g', bl, al), (x0, y0, x1, y1)) rfl
      replace HLV := Lib.hid (HLV.out.grows hga)
      clear hga
      generalize wr.alloc (.cells #[.int .i64 t, .int .i64 x, .int .i64 y, .int .i64 r, .int .i64 g', .int .i64 bl, .int .i64 al, .int .i64 x0, .int .i64 y0, .int .i64 x1, .int .i64 y1] 48) = w4 at *
      generalize wr.heap.size = stb at *
      obtain ⟨so', hseen, hxx, hokk, hgW4⟩ := HLV.out
      clear hxx
      have HSEEN := Lib.hid hseen
      have HRB4 : Hid (BoxAt w4 w.heap.size a b c d) := HRB.out.grows hgW4
      have HG4 : Hid (Grows w w4) := HGW.out.step hgW4
      simp only at hokk
      subst hokk
      clear hseen hgW4
      obtain ⟨s0, s1, s2, s3, s4, s5, s6, s7, s8, s9, s10⟩ := HSB.out.cells
      obtain ⟨k0, k1, k2, k3⟩ := HSEEN.out.cells
      obtain ⟨q0, q1, q2, q3⟩ := HRB4.out
      have hask : ∀ t', (t' = 1 ∨ t' = 2 ∨ t' = 3) → t = t' → ∀ hin : InB (A', B', C', D') x y, LoopI sb W w4 (stp a b c d 4 ((A', B', C', D'), f, cols, offs', true) (t, x, y, (r, g', bl, al), (x0, y0, x1, y1))) (.bool so) := by
        rintro t' h3 rfl hin
        rcases h3 with rfl | rfl | rfl
        · exact HLV.out.same (decide_eq_true hin)
        · exact HLV.out.same (decide_eq_true hin)
        · exact HLV.out.same (decide_eq_true hin)
      have hasn : ∀ t', (t' = 1 ∨ t' = 2 ∨ t' = 3) → t = t' → ∀ hin : ¬ InB (A', B', C', D') x y, (stp a b c d 4 ((A', B', C', D'), f, cols, offs', true) (t, x, y, (r, g', bl, al), (x0, y0, x1, y1))).2.2.2.2 = false := by
        rintro t' h3 rfl hin
        rcases h3 with rfl | rfl | rfl
        · show (true && decide (InB (A', B', C', D') x y)) = false
          rw [decide_eq_false hin]; rfl
        · show (true && decide (InB (A', B', C', D') x y)) = false
          rw [decide_eq_false hin]; rfl
        · show (true && decide (InB (A', B', C', D') x y)) = false
          rw [decide_eq_false hin]; rfl
      have HASK := Lib.hid hask
      have HASN := Lib.hid hasn
      clear hask hasn
      by_cases t1 : t = 1
      · subst t1
        by_cases hin : Inn A' B' C' D' x y
        · have hso1 : so = true := by
            cases so with
            | true => rfl
            | false =>
              have := HSO.out rfl
              simp only [Prod.mk.injEq] at this
              unfold Inn at hin
              omega
          have HIN := Lib.hid hin
          subst hso1
          clear hin
          go_wp2_with fail
          refine (specHas_yes _ _ _ _ _ _ _ HIN.out).mono ?_
          rintro e w5 ⟨rfl, hg5⟩
          have HL5 : Hid (LoopI sb W w5 (stp a b c d 4 ((A', B', C', D'), f, cols, offs', true) (1, x, y, (r, g', bl, al), (x0, y0, x1, y1))) (.bool true)) := (HASK.out 1 (.inl rfl) rfl HIN.out).grows hg5
          clear hg5
          go_wp2_with fail
          go_roundw
          case rel => exact ⟨j + 1, by omega, by go_num, by rw [HN.out]; exact HL5.out⟩
          case measure => simp [intOf]; omega
        · have HIN := Lib.hid hin
          clear hin
          have HRS : Hid ((runF a b c d 4 f0 ss).2.2.2.2 = false) := HNO.out (by rw [HN.out]; exact HASN.out 1 (.inl rfl) rfl HIN.out)
          cases so with
          | true =>
            go_wp2_with fail
            refine (specHas_no _ _ _ _ _ _ _ HIN.out).mono ?_
            rintro e w5 ⟨rfl, hg5⟩
            go_wp2_with fail
            go_ret
            exact ⟨ret_bool HRS.out.symm, HG4.out.step hg5⟩
          | false =>
            go_wp2_with fail
            go_ret
            exact ⟨ret_bool HRS.out.symm, HG4.out⟩
      by_cases t2 : t = 2
      · subst t2
        by_cases hin : Inn A' B' C' D' x y
        · have hso1 : so = true := by
            cases so with
            | true => rfl
            | false =>
              have := HSO.out rfl
              simp only [Prod.mk.injEq] at this
              unfold Inn at hin
              omega
          have HIN := Lib.hid hin
          subst hso1
          clear hin
          go_wp2_with fail
          refine (specHas_yes _ _ _ _ _ _ _ HIN.out).mono ?_
          rintro e w5 ⟨rfl, hg5⟩
          have HL5 : Hid (LoopI sb W w5 (stp a b c d 4 ((A', B', C', D'), f, cols, offs', true) (2, x, y, (r, g', bl, al), (x0, y0, x1, y1))) (.bool true)) := (HASK.out 2 (.inr (.inl rfl)) rfl HIN.out).grows hg5
          clear hg5
          go_wp2_with fail
          go_roundw
          case rel => exact ⟨j + 1, by omega, by go_num, by rw [HN.out]; exact HL5.out⟩
          case measure => simp [intOf]; omega
        · have HIN := Lib.hid hin
          clear hin
          have HRS : Hid ((runF a b c d 4 f0 ss).2.2.2.2 = false) := HNO.out (by rw [HN.out]; exact HASN.out 2 (.inr (.inl rfl)) rfl HIN.out)
          cases so with
          | true =>
            go_wp2_with fail
            refine (specHas_no _ _ _ _ _ _ _ HIN.out).mono ?_
            rintro e w5 ⟨rfl, hg5⟩
            go_wp2_with fail
            go_ret
            exact ⟨ret_bool HRS.out.symm, HG4.out.step hg5⟩
          | false =>
            go_wp2_with fail
            go_ret
            exact ⟨ret_bool HRS.out.symm, HG4.out⟩
      by_cases t3 : t = 3
      · subst t3
        by_cases hin : Inn A' B' C' D' x y
        · have hso1 : so = true := by
            cases so with
            | true => rfl
            | false =>
              have := HSO.out rfl
              simp only [Prod.mk.injEq] at this
              unfold Inn at hin
              omega
          have HIN := Lib.hid hin
          subst hso1
          clear hin
          go_wp2_with fail
          refine (specHas_yes _ _ _ _ _ _ _ HIN.out).mono ?_
          rintro e w5 ⟨rfl, hg5⟩
          have HL5 : Hid (LoopI sb W w5 (stp a b c d 4 ((A', B', C', D'), f, cols, offs', true) (3, x, y, (r, g', bl, al), (x0, y0, x1, y1))) (.bool true)) := (HASK.out 3 (.inr (.inr rfl)) rfl HIN.out).grows hg5
          clear hg5
          go_wp2_with fail
          go_roundw
          case rel => exact ⟨j + 1, by omega, by go_num, by rw [HN.out]; exact HL5.out⟩
          case measure => simp [intOf]; omega
        · have HIN := Lib.hid hin
          clear hin
          have HRS : Hid ((runF a b c d 4 f0 ss).2.2.2.2 = false) := HNO.out (by rw [HN.out]; exact HASN.out 3 (.inr (.inr rfl)) rfl HIN.out)
          cases so with
          | true =>
            go_wp2_with fail
            refine (specHas_no _ _ _ _ _ _ _ HIN.out).mono ?_
            rintro e w5 ⟨rfl, hg5⟩
            go_wp2_with fail
            go_ret
            exact ⟨ret_bool HRS.out.symm, HG4.out.step hg5⟩
          | false =>
            go_wp2_with fail
            go_ret
            exact ⟨ret_bool HRS.out.symm, HG4.out⟩
      by_cases t4 : t = 4
      · subst t4
        cases so with
        | false =>
          have hv0 := HSO.out rfl
          have hI0 : interB (A', B', C', D') (x0, y0, x1, y1) = (A', B', C', D') := by
            rw [hv0]
            refine interB_no fun h => ?_
            unfold Meet at h
            omega
          have HI0 := Lib.hid hI0
          clear hv0 hI0
          go_wp2_with fail
          go_roundw
          case rel =>
            refine ⟨j + 1, by omega, by go_num, ?_⟩
            rw [HN.out]
            show LoopI sb W w4 (interB (A', B', C', D') (x0, y0, x1, y1), f, cols, offs', true) _
            rw [HI0.out]
            exact HLV.out
          case measure => simp [intOf]; omega
        | true =>
          by_cases hm : Meet A' B' C' D' x0 y0 x1 y1
          · have HM := Lib.hid hm
            have HIY := Lib.hid (interB_yes hm)
            clear hm
            go_wp2_with fail
            refine (common_yes _ _ _ _ _ _ _ _ _ HM.out).mono ?_
            rintro e w5 ⟨rfl, hg5⟩
            generalize max A' x0 = M0 at *
            generalize max B' y0 = M1 at *
            generalize min C' x1 = M2 at *
            generalize min D' y1 = M3 at *
            have HSN5 := Lib.hid (HSEEN.out.grows hg5)
            have HLW := Lib.hid (HLV.out.grows hg5)
            clear hg5 k0 k1 k2 k3 s0 s1 s2 s3 s4 s5 s6 s7 s8 s9 s10 q0 q1 q2 q3
            have kf := HSN5.out.frozen
            obtain ⟨k0, k1, k2, k3⟩ := HSN5.out.cells
            have KS := Lib.hid ((((HSN5.out.set0 M0).set1 M1).set2 M2).set3 M3)
            have hgs : w5.grownBy ((((w5.setCell ⟨sb, 0, none⟩ (.int .i64 M0)).setCell ⟨sb, 1, none⟩ (.int .i64 M1)).setCell ⟨sb, 2, none⟩ (.int .i64 M2)).setCell ⟨sb, 3, none⟩ (.int .i64 M3)) (some sb) := only_set (only_set (only_set (only_set (World.grownBy.refl _ _) _ _) _ _) _ _) _ _
            have HL5 := Lib.hid (HLW.out.view (u := (M0, M1, M2, M3)) (so := true) hsb2 KS.out hgs (fun h => absurd h (by simp)))
            clear hgs KS
            go_wp2_with fail
            go_roundw
            case rel =>
              refine ⟨j + 1, by omega, by go_num, ?_⟩
              rw [HN.out]
              show LoopI sb W _ (interB (A', B', C', D') (x0, y0, x1, y1), f, cols, offs', true) _
              rw [HIY.out]
              exact HL5.out
            case measure => simp [intOf]; omega
          · have HM := Lib.hid hm
            have HIY := Lib.hid (interB_no hm)
            clear hm
            go_wp2_with fail
            refine (common_no _ _ _ _ _ _ _ _ _ HM.out).mono ?_
            rintro e w5 ⟨rfl, hg5⟩
            obtain ⟨M0, hM0⟩ : ∃ M : Int, M = 0 := ⟨_, rfl⟩
            obtain ⟨M1, hM1⟩ : ∃ M : Int, M = 0 := ⟨_, rfl⟩
            obtain ⟨M2, hM2⟩ : ∃ M : Int, M = 0 := ⟨_, rfl⟩
            obtain ⟨M3, hM3⟩ : ∃ M : Int, M = 0 := ⟨_, rfl⟩
            have hmz : ((M0, M1, M2, M3) : Bx) = (0, 0, 0, 0) := by rw [hM0, hM1, hM2, hM3]
            have HMZ := Lib.hid hmz
            have hbz : box4 0 0 0 0 = box4 M0 M1 M2 M3 := by rw [hM0, hM1, hM2, hM3]
            rw [← HMZ.out] at HIY
            rw [hbz]
            clear hM0 hM1 hM2 hM3 hbz hmz
            have HSN5 := Lib.hid (HSEEN.out.grows hg5)
            have HLW := Lib.hid (HLV.out.grows hg5)
            clear hg5 k0 k1 k2 k3 s0 s1 s2 s3 s4 s5 s6 s7 s8 s9 s10 q0 q1 q2 q3
            have kf := HSN5.out.frozen
            obtain ⟨k0, k1, k2, k3⟩ := HSN5.out.cells
            have KS := Lib.hid ((((HSN5.out.set0 M0).set1 M1).set2 M2).set3 M3)
            have hgs : w5.grownBy ((((w5.setCell ⟨sb, 0, none⟩ (.int .i64 M0)).setCell ⟨sb, 1, none⟩ (.int .i64 M1)).setCell ⟨sb, 2, none⟩ (.int .i64 M2)).setCell ⟨sb, 3, none⟩ (.int .i64 M3)) (some sb) := only_set (only_set (only_set (only_set (World.grownBy.refl _ _) _ _) _ _) _ _) _ _
            have HL5 := Lib.hid (HLW.out.view (u := (M0, M1, M2, M3)) (so := false) hsb2 KS.out hgs (fun _ => HMZ.out))
            clear hgs KS
            go_wp2_with fail
            go_roundw
            case rel =>
              refine ⟨j + 1, by omega, by go_num, ?_⟩
              rw [HN.out]
              show LoopI sb W _ (interB (A', B', C', D') (x0, y0, x1, y1), f, cols, offs', true) _
              rw [HIY.out]
              exact HL5.out
            case measure => simp [intOf]; omega
      by_cases t5 : t = 5
      · subst t5
        have kf := HSEEN.out.frozen
        have KS := Lib.hid ((((HSEEN.out.set0 a).set1 b).set2 c).set3 d)
        have hgs : w4.grownBy ((((w4.setCell ⟨sb, 0, none⟩ (.int .i64 a)).setCell ⟨sb, 1, none⟩ (.int .i64 b)).setCell ⟨sb, 2, none⟩ (.int .i64 c)).setCell ⟨sb, 3, none⟩ (.int .i64 d)) (some sb) := only_set (only_set (only_set (only_set (World.grownBy.refl _ _) _ _) _ _) _ _) _ _
        have HL5 := Lib.hid (HLV.out.view (u := (a, b, c, d)) (so := true) hsb2 KS.out hgs (by simp))
        clear hgs KS
        go_wp2_with fail
        go_roundw
        case rel => exact ⟨j + 1, by omega, by go_num, by rw [HN.out]; exact HL5.out⟩
        case measure => simp [intOf]; omega
      · have b1 : (t == 1) = false := by simp [t1]
        have b2 : (t == 2) = false := by simp [t2]
        have b3 : (t == 3) = false := by simp [t3]
        have b4 : (t == 4) = false := by simp [t4]
        have b5 : (t == 5) = false := by simp [t5]
        have hst : stp a b c d 4 ((A', B', C', D'), f, cols, offs', true) (t, x, y, (r, g', bl, al), (x0, y0, x1, y1)) = ((A', B', C', D'), f, cols, offs', true) := by
          simp only [stp, if_neg t1, if_neg t2, if_neg t3, if_neg t4, if_neg t5]
        have HST := Lib.hid hst
        clear t1 t2 t3 t4 t5 hst
        go_wp2_with fail
        go_roundw
        case rel => exact ⟨j + 1, by omega, by go_num, by rw [HN.out, HST.out]; exact HLV.out⟩
        case measure => simp [intOf]; omega
    · have hjl : j = ss.length := by omega
      have hb3 : decide ((j : Int) < ss.length) = false := decide_eq_false (by omega)
      rw [hjl, List.take_length] at hlv
      obtain ⟨so, _, _, hok, hgW4⟩ := hlv
      have HOK := Lib.hid hok
      clear hjl hok
      go_wp2_with fail
      go_ret
      exact ⟨ret_bool HOK.out.symm, HGW.out.step hgW4⟩
end Go.Proofs.Ytbedollfokdldaa

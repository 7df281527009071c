/-
  FnCMYKRun returns true for every input, and each argument reads afterwards as before. Conditions: none beyond the row's own.
-/
import Derived.Test.YtbedollfokdldaaSpecFam
import Derived.Test.YtbedollfokdldaaSteps
import Derived.Test.YtbedollfokdldaaSameCol
import Derived.Test.YtbedollfokdldaaActs
import Derived.Test.YtbedollfokdldaaLift
import Derived.Test.YtbedollfokdldaaInside
import Derived.Deep.Cut
namespace Go.Proofs.Ytbedollfokdldaa.lawCMYKRun
open Go.ChangeShapes Go.WideShapes Go.ChangeAt Go.RowKit
set_option linter.unusedVariables false

set_option maxRecDepth 20000 in
set_option maxHeartbeats 4000000 in
theorem walk (a b c d : Int) (vv : Value) (zs : List Int) (vs : Value) (ss : List Stp) (w : World) (ha : I64 a) (hb : I64 b) (hc : I64 c) (hd : I64 d) (h : RdI w vv zs) (hs : RdS w vs ss) :
    Calls Try.prog 3 #[box4 a b c d, vv, vs] w fun e w' => e = .returned (.bool true) ∧ Grows w w' := by
  have HR := Lib.hid h
  have HS := Lib.hid hs
  obtain ⟨A, cc, rfl, _⟩ := h
  obtain ⟨A1, c1, rfl, hs1, hs2, hs3, hs4, _⟩ := hs
  have HS4 := Lib.hid hs4
  clear hs4
  go_enter Try.func3, Try.ntmps3
  go_upto_region 1 with fail
  have HB0 : Hid (BoxAt (w.alloc (.cells #[.int .i64 a, .int .i64 b, .int .i64 c, .int .i64 d] 23)) w.heap.size a b c d) := ⟨cell_top rfl rfl, cell_top rfl rfl, cell_top rfl rfl, cell_top rfl rfl⟩
  have HG : Hid (Grows w (w.alloc (.cells #[.int .i64 a, .int .i64 b, .int .i64 c, .int .i64 d] 23))) := (Grows.rfl' w).alloc' _
  generalize w.alloc (.cells #[.int .i64 a, .int .i64 b, .int .i64 c, .int .i64 d] 23) = w0 at *
  obtain ⟨q0, q1, q2, q3⟩ := HB0.out
  go_wp2_with fail
  refine (asRect_any _ _ _ _ _).mono ?_
  rintro e w2 ⟨rfl, hg2⟩
  replace HG := Lib.hid (HG.out.step hg2)
  replace HB0 := Lib.hid (HB0.out.grows hg2)
  clear hg2 q0 q1 q2 q3
  go_wp2_with fail
  refine (asSteps_any _ ss w2 (HS.out.grows HG.out)).mono ?_
  rintro e w3 ⟨vst, rfl, hst⟩
  have HRS : Hid (RdS w3 vst ss) := hst.rd hs3 HS4.out
  obtain ⟨A5, c5, rfl⟩ := hst.form
  replace HG := Lib.hid (HG.out.step hst.2)
  replace HB0 := Lib.hid (HB0.out.grows hst.2)
  clear hst
  go_upto_region 2 with fail
  replace HB0 := Lib.hid (HB0.out.grows ((Grows.rfl' _).alloc' (.cells #[.int .i64 a, .int .i64 b, .int .i64 c, .int .i64 d] 26)))
  have HB : Hid (BoxAt (w3.alloc (.cells #[.int .i64 a, .int .i64 b, .int .i64 c, .int .i64 d] 26)) w3.heap.size a b c d) := ⟨cell_top rfl rfl, cell_top rfl rfl, cell_top rfl rfl, cell_top rfl rfl⟩
  have hga : Grows w3 (w3.alloc (.cells #[.int .i64 a, .int .i64 b, .int .i64 c, .int .i64 d] 26)) := (Grows.rfl' _).alloc' _
  replace HG := Lib.hid (HG.out.step hga)
  replace HRS := Lib.hid (HRS.out.grows hga)
  clear hga
  generalize w3.alloc (.cells #[.int .i64 a, .int .i64 b, .int .i64 c, .int .i64 d] 26) = w4 at *
  generalize w3.heap.size = bx at *
  obtain ⟨q0, q1, q2, q3⟩ := HB0.out
  by_cases hf : Fine a b c d
  · have HF := Lib.hid hf
    have htl := total_le (k := 4) (by omega) hf
    have HOK := Lib.hid (runF_okay (k := 4) (f := byteAt zs) ⟨hf.2.2.1.1, hf.2.2.1.2⟩ (byteAt_in zs) ss ss.length (Nat.le_refl _))
    rw [List.take_length] at HOK
    clear hf
    go_wp2_with fail
    refine (fine_yes _ _ _ _ _ HF.out).mono ?_
    rintro e w4' ⟨rfl, hg4⟩
    replace HB := Lib.hid (HB.out.grows hg4)
    replace HG := Lib.hid (HG.out.step hg4)
    replace HRS := Lib.hid (HRS.out.grows hg4)
    clear hg4 q0 q1 q2 q3 HB0
    obtain ⟨p0, p1, p2, p3⟩ := HB.out
    by_cases hok : (runF a b c d 4 (byteAt zs) ss).2.2.2.2 = true
    · go_wp2_with fail
      refine (inside_any a b c d (byteAt zs) _ ss w4' HF.out HRS.out).mono ?_
      rintro e w5 ⟨rfl, hg5⟩
      rw [hok]
      have HKK := Lib.hid hok
      replace HB := Lib.hid (HB.out.grows hg5)
      replace HG := Lib.hid (HG.out.step hg5)
      replace HRS := Lib.hid (HRS.out.grows hg5)
      clear hg5 p0 p1 p2 p3 hok
      generalize w5 = w4 at *
      go_upto_region 4 with fail
      obtain ⟨p0, p1, p2, p3⟩ := HB.out
      go_wp2_with fail
      refine (implRun a b c d _ zs _ ss w4 HF.out (HR.out.grows HG.out) HRS.out).mono ?_
      rintro e w5 ⟨vc1, vo1, vp, offs1, rfl, hC1, hO1, hP1, hof1, hob1⟩
      clear p0 p1 p2 p3
      have HSP := Lib.hid (fun W (hW : Grows w W) (hr : RdS W (.slice A5 ss.length c5) ss) => specFam a b c d _ zs _ ss W HF.out (HR.out.grows hW) hr)
      generalize runF a b c d 4 (byteAt zs) ss = S at *
      obtain ⟨F, hFF⟩ : ∃ F, F = bytesOf (total a b c d 4) S.2.1 := ⟨_, rfl⟩
      have HFL : Hid (F.length ≤ 4000000 ∧ ∀ m ∈ F, -9223372036854775808 ≤ m ∧ m ≤ 9223372036854775807) := by
        rw [hFF]
        exact ⟨by rw [bytesOf_length]; omega, bytesOf_in fun i _ => by have := HOK.out.2.1 i; omega⟩
      have HFF := Lib.hid hFF
      rw [← hFF] at hP1
      clear hFF
      have hcl : S.2.2.1.length ≤ 4000000000000 := by have := HOK.out.2.2.1; omega
      have hcz : ∀ l ∈ S.2.2.1, l.length = 4 ∧ ∀ m ∈ l, -9223372036854775808 ≤ m ∧ m ≤ 9223372036854775807 := fun l hl => ⟨(HOK.out.2.2.2.1 l hl).1, fun m hm => by have := (HOK.out.2.2.2.1 l hl).2 m hm; omega⟩
      have HCZ := Lib.hid hcz
      clear hcz
      obtain ⟨C1, k1, rfl⟩ := hP1.form
      have HC1 : Hid (RdC w5 vc1 S.2.2.1) := hC1.rd hcl HCZ.out
      have HOF1 : Hid ((S.2.2.2.2 = true → offs1 = S.2.2.2.1) ∧ RdI w5 vo1 offs1) := ⟨hof1, hO1.rd (by omega) hob1.2⟩
      have HP1 : Hid (RdI w5 (.slice C1 F.length k1) F) := hP1.rd (by have := HFL.out.1; omega) HFL.out.2
      have HG5 := Lib.hid hC1.2
      clear hC1 hO1 hP1 hof1 hob1
      go_upto_region 5 with fail
      have hga : Grows w5 (w5.alloc (.cells #[.int .i64 a, .int .i64 b, .int .i64 c, .int .i64 d, .int .i64 (sd a c 4), .slice C1 F.length k1] 34)) := (Grows.rfl' _).alloc' _
      have HX1 : Hid (PicAt (w5.alloc (.cells #[.int .i64 a, .int .i64 b, .int .i64 c, .int .i64 d, .int .i64 (sd a c 4), .slice C1 F.length k1] 34)) w5.heap.size a b c d (sd a c 4) (.slice C1 F.length k1)) := heap_alloc_new _ _
      replace HC1 := Lib.hid (HC1.out.grows hga)
      replace HOF1 := Lib.hid (And.intro HOF1.out.1 (HOF1.out.2.grows hga))
      replace HP1 := Lib.hid (HP1.out.grows hga)
      replace HB := Lib.hid (HB.out.grows (HG5.out.step hga))
      replace HRS := Lib.hid (HRS.out.grows (HG5.out.step hga))
      replace HG := Lib.hid (HG.out.step (HG5.out.step hga))
      clear hga HG5
      generalize w5.alloc (.cells #[.int .i64 a, .int .i64 b, .int .i64 c, .int .i64 d, .int .i64 (sd a c 4), .slice C1 F.length k1] 34) = w6 at *
      generalize w5.heap.size = pb1 at *
      obtain ⟨p0, p1, p2, p3⟩ := HB.out
      go_wp2_with fail
      refine (HSP.out w6 HG.out HRS.out).mono ?_
      rintro e w7 ⟨vc2, vo2, g, offs2, rfl, hC2, hix, hO2, hof2, hob2⟩
      clear p0 p1 p2 p3
      have HC2 : Hid (RdC w7 vc2 S.2.2.1) := hC2.rd hcl HCZ.out
      have HOF2 : Hid ((S.2.2.2.2 = true → offs2 = S.2.2.2.1) ∧ RdI w7 vo2 offs2) := ⟨hof2, hO2.rd (by omega) hob2.2⟩
      have HP2 : Hid (RdI w7 (.slice (some ⟨g, 0, none⟩) (total a b c d 4) (total a b c d 4)) F) := by
        rw [HFF.out]
        exact hix.rd (by omega) (fun i _ => by have := HOK.out.2.1 i; omega)
      have HG7 := Lib.hid hC2.2
      clear hC2 hO2 hix hof2 hob2 HSP
      go_upto_region 6 with fail
      have hga : Grows w7 (w7.alloc (.cells #[.int .i64 a, .int .i64 b, .int .i64 c, .int .i64 d, .int .i64 (sd a c 4), .slice (some ⟨g, 0, none⟩) (total a b c d 4) (total a b c d 4)] 34)) := (Grows.rfl' _).alloc' _
      have HX2 : Hid (PicAt (w7.alloc (.cells #[.int .i64 a, .int .i64 b, .int .i64 c, .int .i64 d, .int .i64 (sd a c 4), .slice (some ⟨g, 0, none⟩) (total a b c d 4) (total a b c d 4)] 34)) w7.heap.size a b c d (sd a c 4) (.slice (some ⟨g, 0, none⟩) (total a b c d 4) (total a b c d 4))) := heap_alloc_new _ _
      have hg68 := HG7.out.step hga
      replace HC1 := Lib.hid (HC1.out.grows hg68)
      replace HOF1 := Lib.hid (And.intro HOF1.out.1 (HOF1.out.2.grows hg68))
      replace HP1 := Lib.hid (HP1.out.grows hg68)
      replace HX1 := Lib.hid (HX1.out.grows hg68)
      replace HC2 := Lib.hid (HC2.out.grows hga)
      replace HOF2 := Lib.hid (And.intro HOF2.out.1 (HOF2.out.2.grows hga))
      replace HP2 := Lib.hid (HP2.out.grows hga)
      replace HG := Lib.hid (HG.out.step hg68)
      clear hga hg68 HG7 HB HRS
      generalize w7.alloc (.cells #[.int .i64 a, .int .i64 b, .int .i64 c, .int .i64 d, .int .i64 (sd a c 4), .slice (some ⟨g, 0, none⟩) (total a b c d 4) (total a b c d 4)] 34) = w8 at *
      generalize w7.heap.size = pb2 at *
      have ho1 := HOF1.out.1 HKK.out
      have ho2 := HOF2.out.1 HKK.out
      go_wp2_with fail
      refine (sameCols_yes _ _ S.2.2.1 _ HC1.out HC2.out).mono ?_
      rintro e w9 ⟨rfl, g9⟩
      have HQ1 : Hid (RdI w9 vo1 S.2.2.2.1) := by rw [← ho1]; exact HOF1.out.2.grows g9
      have HQ2 : Hid (RdI w9 vo2 S.2.2.2.1) := by rw [← ho2]; exact HOF2.out.2.grows g9
      clear ho1 ho2
      replace HG := Lib.hid (HG.out.step g9)
      replace HX1 := Lib.hid (HX1.out.grows g9)
      replace HX2 := Lib.hid (HX2.out.grows g9)
      replace HP1 := Lib.hid (HP1.out.grows g9)
      replace HP2 := Lib.hid (HP2.out.grows g9)
      clear g9
      generalize w9 = w8 at *
      go_wp2_with fail
      refine (sameInts_yes _ _ S.2.2.2.1 _ HQ1.out HQ2.out).mono ?_
      rintro e w9 ⟨rfl, g9⟩
      clear HQ1 HQ2
      obtain ⟨t0, t1, t2, t3, t4, t5⟩ := (HX1.out.grows g9).cells
      obtain ⟨u0, u1, u2, u3, u4, u5⟩ := (HX2.out.grows g9).cells
      have HG9 := Lib.hid (HG.out.step g9)
      have HQP1 : Hid (IsPic a b c d (sd a c 4) F (.agg #[.int .i64 a, .int .i64 b, .int .i64 c, .int .i64 d, .int .i64 (sd a c 4), .slice C1 F.length k1]) w9) := ⟨_, rfl, HP1.out.grows g9⟩
      have HQP2 : Hid (IsPic a b c d (sd a c 4) F (.agg #[.int .i64 a, .int .i64 b, .int .i64 c, .int .i64 d, .int .i64 (sd a c 4), .slice (some ⟨g, 0, none⟩) (total a b c d 4) (total a b c d 4)]) w9) := ⟨_, rfl, HP2.out.grows g9⟩
      clear g9
      go_wp2_with fail
      refine (samePicture_yes a b c d (sd a c 4) _ _ F w9 HQP1.out HQP2.out).mono ?_
      rintro e w10 ⟨rfl, g10⟩
      go_wp2_with fail
      go_ret
      exact ⟨rfl, HG9.out.step g10⟩
    · have hok' : (runF a b c d 4 (byteAt zs) ss).2.2.2.2 = false := by simpa using hok
      go_wp2_with fail
      refine (inside_any a b c d (byteAt zs) _ ss w4' HF.out HRS.out).mono ?_
      rintro e w5 ⟨rfl, hg5⟩
      rw [hok']
      clear hok hok'
      go_wp2_with fail
      go_ret
      exact ⟨rfl, HG.out.step hg5⟩
  · have HF := Lib.hid hf
    clear hf
    go_wp2_with fail
    refine (fine_no _ _ _ _ _ HF.out ha hb).mono ?_
    rintro e w5 ⟨rfl, hg5⟩
    go_wp2_with fail
    go_ret
    exact ⟨rfl, HG.out.step hg5⟩

set_option linter.unusedVariables false
set_option maxRecDepth 100000 in
theorem lifted (os : Os) (started : os.Started) (H : Type) (enc : TypeId × Value → H) :
    ReturnsInHanded {} Try.checked os 3 .any (Rows.fnCMYKRunSpec.pre6 enc Try.prog Try.f3 Rows.fnCMYKRunRow.domain false) (Rows.fnCMYKRunSpec.post enc Try.prog Try.f3 false true false false) := by
  refine returnsInHanded_of_change_sized (C := Try.checked) own started (by kernel_rfl) Try.func3
    (ChangeSpec.witness6 (enc := enc) (C := Try.checked) false ⟨#[], #[.agg #[.int .i64 0, .int .i64 0, .int .i64 0, .int .i64 0], .slice none 0 0, .slice none 0 0], []⟩ 8 (by kernel_rfl) (by kernel_rfl) (by kernel_rfl) (by kernel_rfl)) ?_
  intro W base args ds gs before hval0 hW hcnd hsz0 _
  have hval : ∀ (j : Nat) t v, Try.f3.params[j]? = some t → args[j]? = some v → Value.okWide Try.prog W .any base t v := hval0
  have hsz : (DataW.weightsEach Try.prog (Try.f3.params.toList ++ Rows.fnCMYKRunSpec.plain.varTypes Try.prog) (ds ++ gs)).all (· ≤ reachBytes) = true := hsz0
  clear hsz0
  have hW' := hW
  obtain ⟨p, q, hA0, hV, rfl, hfz, hnd⟩ := hW
  have hA : DataW.TrodAll enc Try.prog W 0 (fun _ => true) true Try.f3.params.toList args.toList ds p := hA0
  rw [Try.params3] at hA hval hsz
  obtain ⟨v0, vs0, d0, ds0, p0, q0, hargs, rfl, rfl, h0, r0⟩ := trodAll_cons hA
  obtain ⟨v1, vs1, d1, ds1, p1, q1, rfl, rfl, rfl, h1, r1⟩ := trodAll_cons r0
  obtain ⟨v2, vs2, d2, ds2, p2, q2, rfl, rfl, rfl, h2, r2⟩ := trodAll_cons r1
  obtain ⟨rfl, rfl, rfl⟩ := trodAll_nil r2
  obtain rfl : args = #[v0, v1, v2] := by cases args; simp_all
  obtain ⟨rfl, rfl⟩ := trodVars_none hV
  have k0 := h0
  have lt0 : ∀ x ∈ p0, x.block < W.heap.size := by obtain ⟨m, hm⟩ := k0; exact DataW.trod_lt m _ _ _ hm
  have k1 := h1
  have lt1 : ∀ x ∈ p1, x.block < W.heap.size := by obtain ⟨m, hm⟩ := k1; exact DataW.trod_lt m _ _ _ hm
  have k2 := h2
  have lt2 : ∀ x ∈ p2, x.block < W.heap.size := by obtain ⟨m, hm⟩ := k2; exact DataW.trod_lt m _ _ _ hm
  obtain ⟨s0a, s0b, s0c, s0d, rfl, ⟨b0a, b0b, b0c, b0d⟩⟩ := open_four Try.underlying23 (by kernel_rfl) cells23 (hval 0 23 v0 rfl rfl) h0
  obtain ⟨z1, hz1⟩ := open_list (hval 1 24 v1 rfl rfl) h1 (fun el sp hd => by subst hd; exact sized_slice hsz (j := 1) (t := 24) (e := 3) rfl rfl Try.underlying24)
  obtain ⟨z2, hz2⟩ := open_acts (hval 2 25 v2 rfl rfl) h2 (fun el sp hd => by subst hd; exact sized_slice hsz (j := 2) (t := 25) (e := 61) rfl rfl Try.underlying25)
  refine (walk s0a s0b s0c s0d v1 z1 v2 z2 W b0a b0b b0c b0d hz1 hz2).mono fun e W' ⟨he, bel⟩ => ?_
  subst he
  exact ⟨_, rfl, _, _, _, [], _, [], hW', trodAll_mk1 (shut_bool Try.underlying4 _), (trodAll_cons_mk (Below.trod laidOut (by kernel_rfl) (of_decide_eq_true (by kernel_rfl)) k0 bel lt0) (trodAll_cons_mk (Below.trod laidOut (by kernel_rfl) (of_decide_eq_true (by kernel_rfl)) k1 bel lt1) (trodAll_cons_mk (Below.trod laidOut (by kernel_rfl) (of_decide_eq_true (by kernel_rfl)) k2 bel lt2) trodAll_mk0))), rfl, bel.frame _, fun h => by cases h⟩

theorem proved : Rows.FnCMYKRunSaid :=
  OpenClaim.holds_of_wide 3 Try.f3 rfl rfl rfl rfl rfl rfl rfl ⟨rfl, rfl, rfl, rfl, rfl⟩ rfl rfl rfl rfl rfl (by kernel_rfl) Try.func3 (by kernel_rfl)
    (of_decide_eq_true (by kernel_rfl)) (by unfold Func.isWrapper; first | (rw [if_pos (by decide +kernel)]; kernel_rfl) | (rw [if_neg (by decide +kernel)]; exact ⟨rfl, rfl⟩))
    (fun os started H enc _ => lifted os started H enc)
#print axioms proved
end Go.Proofs.Ytbedollfokdldaa.lawCMYKRun

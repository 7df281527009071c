/-
  FnCMYKSubAll returns true for every input, and each argument reads afterwards as before. Conditions: none beyond the row's own.
-/
import Derived.Test.YtfnmgkbeeckjnaaSub
import Derived.Test.YtfnmgkbeeckjnaaAt
import Derived.Test.YtfnmgkbeeckjnaaRead
import Derived.Test.YtfnmgkbeeckjnaaBoxPic
import Derived.Test.YtfnmgkbeeckjnaaPartOf
import Derived.Test.YtfnmgkbeeckjnaaLift
import Derived.Deep.Cut
namespace Go.Proofs.Ytfnmgkbeeckjnaa.lawCMYKSubAll
open Go.ChangeShapes Go.WideShapes Go.ChangeAt Go.RowKit
set_option linter.unusedVariables false

set_option maxRecDepth 20000 in
set_option maxHeartbeats 4000000 in
theorem walk (a b c d : Int) (vv : Value) (zs : List Int) (w : World) (ha : I64 a) (hb : I64 b) (hc : I64 c) (hd : I64 d) (h : RdI w vv zs) :
    Calls Try.prog 10 #[box4 a b c d, vv] w fun e w' => e = .returned (.bool true) ∧ Grows w w' := by
  have HR := Lib.hid h
  obtain ⟨A, cc, rfl, _⟩ := h
  go_enter Try.func10, Try.ntmps10
  go_wp2_with fail
  refine (asRect_any _ _ _ _ _).mono ?_
  rintro e w1 ⟨rfl, hg1⟩
  have q0 : w1.cell? ⟨w.heap.size, 0, none⟩ = some (.int .i64 a) := hg1.cell_some (by simp)
  have q1 : w1.cell? ⟨w.heap.size, 1, none⟩ = some (.int .i64 b) := hg1.cell_some (by simp)
  have q2 : w1.cell? ⟨w.heap.size, 2, none⟩ = some (.int .i64 c) := hg1.cell_some (by simp)
  have q3 : w1.cell? ⟨w.heap.size, 3, none⟩ = some (.int .i64 d) := hg1.cell_some (by simp)
  have HG : Hid (Grows w w1) := ((Grows.rfl' w).alloc' _).step hg1
  clear hg1
  go_upto_region 2 with fail
  have HB : Hid (BoxAt (w1.alloc (.cells #[.int .i64 a, .int .i64 b, .int .i64 c, .int .i64 d] 40)) w1.heap.size a b c d) := ⟨cell_top rfl rfl, cell_top rfl rfl, cell_top rfl rfl, cell_top rfl rfl⟩
  have hgw : Grows w1 (w1.alloc (.cells #[.int .i64 a, .int .i64 b, .int .i64 c, .int .i64 d] 40)) := (Grows.rfl' _).alloc' _
  have HR0 : Hid (BoxAt (w1.alloc (.cells #[.int .i64 a, .int .i64 b, .int .i64 c, .int .i64 d] 40)) w.heap.size a b c d) := BoxAt.grows ⟨q0, q1, q2, q3⟩ hgw
  replace HG := Lib.hid (HG.out.step hgw)
  clear hgw q0 q1 q2 q3
  generalize w1.alloc (.cells #[.int .i64 a, .int .i64 b, .int .i64 c, .int .i64 d] 40) = w2 at *
  generalize w1.heap.size = bx at *
  obtain ⟨r0, r1, r2, r3⟩ := HR0.out
  by_cases hf : Fine a b c d
  · have HF := Lib.hid hf
    clear hf
    go_wp2_with fail
    refine (fine_yes _ _ _ _ _ HF.out).mono ?_
    rintro e w4 ⟨rfl, hg4⟩
    replace HB := Lib.hid (HB.out.grows hg4)
    replace HR0 := Lib.hid (HR0.out.grows hg4)
    replace HG := Lib.hid (HG.out.step hg4)
    clear hg4 r0 r1 r2 r3
    obtain ⟨r0, r1, r2, r3⟩ := HR0.out
    by_cases hac : a = c
    · have hb1 : (a == c) = true := by simp [hac]
      clear hac
      go_wp2_with fail
      go_ret
      exact ⟨rfl, HG.out⟩
    have hb1 : (a == c) = false := by simp [hac]
    by_cases hbd : b = d
    · have hb2 : (b == d) = true := by simp [hbd]
      clear hac hbd
      go_wp2_with fail
      go_ret
      exact ⟨rfl, HG.out⟩
    have hb2 : (b == d) = false := by simp [hbd]
    have hmt : Meet a b c d a b c d := by
      obtain ⟨_, _, ⟨f5, f6⟩, _⟩ := HF.out
      unfold Meet; omega
    have HM := Lib.hid hmt
    clear hmt hac hbd
    have htl := total_le (k := 4) (by omega) HF.out
    have hsd := sd_in (k := 4) (by omega) HF.out
    obtain ⟨i0, L, hL, hLl, hLi, hLp⟩ := part_of (k := 4) (zs := zs) (by omega) (by omega) HF.out HM.out
    simp only [Int.max_self] at hL hLp
    have hsub : ∀ W, Grows w W → Calls Try.prog 26 #[box4 a b c d, .slice A zs.length cc, box4 a b c d] W (NewPic a b c d (sd a c 4) L W) := by
      intro W hW
      obtain ⟨e1, e2, e3⟩ := hL
      have h := implSub_yes a b c d a b c d _ zs i0 W HF.out (HR.out.grows hW) HM.out (by simp only [Int.max_self]; exact e1) e2
      simp only [Int.max_self, Int.min_self] at h
      rw [← e3] at h
      exact h
    have HL := Lib.hid (hsub w4 HG.out)
    have HLL := Lib.hid hLl
    have HLI := Lib.hid hLi
    have HLP := Lib.hid hLp
    clear hL hLl hLi hLp hsub
    generalize sd a c 4 = S at *
    obtain ⟨s0, s1, s2, s3⟩ := HB.out
    go_wp2_with fail
    refine HL.out.mono ?_
    rintro e w5 ⟨vp, rfl, ho⟩
    obtain ⟨A', cc', rfl⟩ := ho.form
    have HR1 : Hid (RdI w5 (.slice A' L.length cc') L) := ho.rd (by have := HLL.out; omega) HLI.out
    have HG5 := Lib.hid ho.2
    clear ho s0 s1 s2 s3 r0 r1 r2 r3 HL
    go_upto_region 5 with fail
    have hga : Grows w5 (w5.alloc (.cells #[.int .i64 a, .int .i64 b, .int .i64 c, .int .i64 d, .int .i64 S, .slice A' L.length cc'] 44)) := (Grows.rfl' _).alloc' _
    have HX : Hid (PicAt (w5.alloc (.cells #[.int .i64 a, .int .i64 b, .int .i64 c, .int .i64 d, .int .i64 S, .slice A' L.length cc'] 44)) w5.heap.size a b c d S (.slice A' L.length cc')) := heap_alloc_new _ _
    replace HR1 := Lib.hid (HR1.out.grows hga)
    replace HB := Lib.hid (HB.out.grows (HG5.out.step hga))
    replace HR0 := Lib.hid (HR0.out.grows (HG5.out.step hga))
    replace HG := Lib.hid (HG.out.step (HG5.out.step hga))
    clear hga HG5 HLI
    generalize w5.alloc (.cells #[.int .i64 a, .int .i64 b, .int .i64 c, .int .i64 d, .int .i64 S, .slice A' L.length cc'] 44) = w6 at *
    generalize w5.heap.size = pbx at *
    obtain ⟨q0, q1, q2, q3⟩ := HR0.out
    go_wp2_with fail
    obtain ⟨⟨f1, f2⟩, ⟨f3, f4⟩, ⟨f5, f6⟩, ⟨f7, f8⟩⟩ := HF.out
    go_loopw [7, 8, 9, 10] (fun yv _ _ _ wr => ∃ y : Int, b ≤ y ∧ y ≤ d ∧ yv = .int .i64 y ∧ Grows w6 wr) (fun yv _ _ _ _ => (d - intOf yv).toNat)
    case atStart => exact ⟨b, by omega, by omega, rfl, Grows.rfl' _⟩
    case round =>
      obtain ⟨y, hy1, hy2, rfl, hgr⟩ := hrel
      have z0 := hgr.cell_some q0
      have z2 := hgr.cell_some q2
      have z3 := hgr.cell_some q3
      by_cases hyd : y < d
      · have hb3 : decide (y < d) = true := decide_eq_true hyd
        have HY : Hid (b ≤ y ∧ y < d) := ⟨hy1, hyd⟩
        have HGR := Lib.hid hgr
        clear hgr
        obtain ⟨wo, rfl⟩ : ∃ wo : World, wo = wr := ⟨_, rfl⟩
        go_wp2_with fail
        go_loopw [8, 9, 10] (fun xv _ _ wr => ∃ x : Int, a ≤ x ∧ x ≤ c ∧ xv = .int .i64 x ∧ Grows wo wr) (fun xv _ _ _ => (c - intOf xv).toNat)
        case atStart => exact ⟨a, by omega, by omega, rfl, Grows.rfl' _⟩
        case round =>
          obtain ⟨x, hx1, hx2, rfl, hgr2⟩ := hrel
          have hg2 := HGR.out.step hgr2
          have HG2 := Lib.hid hg2
          have u2 := hg2.cell_some q2
          by_cases hxc : x < c
          · obtain ⟨t0, t1, t2, t3, t4, t5⟩ := (HX.out.grows hg2).cells
            have hb4 : decide (x < c) = true := decide_eq_true hxc
            obtain ⟨j, hj, hjl, hj1⟩ := HLP.out x y (by unfold Inn; omega) hx1 hy1
            have HAT := Lib.hid (at_yes a b c d S x y 4 j _ L wr ⟨_, rfl, HR1.out.grows hg2⟩ (by omega) (by omega) (by omega) (by omega) (by omega) (by omega) (by omega) (by omega) hj hjl)
            have HRD := Lib.hid (fun (W : World) (hW : Grows w W) => read_any a b c d x y _ zs W HF.out (HR.out.grows hW))
            rw [hj1] at HAT
            clear hj hjl hj1 hg2
            have hp0 : pxs a b c d 4 zs x y = [px a b c d 4 zs x y 0, px a b c d 4 zs x y 1, px a b c d 4 zs x y 2, px a b c d 4 zs x y 3] := rfl
            rw [hp0] at HAT
            clear hp0 HLP
            generalize px a b c d 4 zs x y 0 = u at *
            generalize px a b c d 4 zs x y 1 = u1 at *
            generalize px a b c d 4 zs x y 2 = u2' at *
            generalize px a b c d 4 zs x y 3 = u3 at *
            have e0 : (u != u) = false := by simp
            have e1 : (u1 != u1) = false := by simp
            have e2 : (u2' != u2') = false := by simp
            have e3 : (u3 != u3) = false := by simp
            go_wp2_with fail
            refine HAT.out.mono ?_
            rintro e w7 ⟨s, rfl, hrd, hg7⟩
            have HG7 := Lib.hid (hgr2.step hg7)
            obtain ⟨A3, cc3, rfl, _, _, _, _, hrr⟩ := hrd
            obtain ⟨bb, oo, rfl, hcell⟩ := hrr 0 u rfl
            obtain ⟨bb', oo', hbo, hcell1⟩ := hrr 1 u1 rfl
            simp only [Option.some.injEq, Addr.mk.injEq, and_true] at hbo
            obtain ⟨rfl, rfl⟩ := hbo
            obtain ⟨bb', oo', hbo, hcell2⟩ := hrr 2 u2' rfl
            simp only [Option.some.injEq, Addr.mk.injEq, and_true] at hbo
            obtain ⟨rfl, rfl⟩ := hbo
            obtain ⟨bb', oo', hbo, hcell3⟩ := hrr 3 u3 rfl
            simp only [Option.some.injEq, Addr.mk.injEq, and_true] at hbo
            obtain ⟨rfl, rfl⟩ := hbo
            clear hrr hg7 hgr2 HG2 HAT t0 t1 t2 t3 t4 t5
            simp only [List.length_cons, List.length_nil, Nat.zero_add, Nat.add_zero] at hcell ⊢
            go_upto_region 12 with fail
            apply wp_region_lex_lit 23 (by kernel_rfl) (by kernel_rfl)
            iterate 23
              apply lex_pin
              · intro wq hgq hdq Kq hKq
                obtain ⟨p0, p1, p2, p3⟩ := HB.out.grows (HGR.out.step (HG7.out.drew'.step hgq))
                have hcell' := hgq.cell_some hcell
                have hcell1' := hgq.cell_some hcell1
                have hcell2' := hgq.cell_some hcell2
                have hcell3' := hgq.cell_some hcell3
                go_wp2_with ((go_at_call 28; refine (HRD.out _ (HG.out.step (HGR.out.step (HG7.out.drew'.step hgq)))).mono ?_); rintro e wq' ⟨rfl, hgq'⟩)
                first | exact hKq _ (Grows.rfl' _) | exact hKq _ hgq'
              · kernel_rfl
            refine lex_end ?_
            intro w9 hg9 _
            have hg := HG7.out.drew'.step hg9
            clear hg9
            go_wp2_with fail
            go_roundw
            case rel => exact ⟨x + 1, by omega, by omega, rfl, hg⟩
            case measure => simp [intOf]; omega
          · have hb4 : decide (x < c) = false := decide_eq_false hxc
            go_wp2_with fail
            go_roundw
            case rel => exact ⟨y + 1, by have := HY.out; omega, by have := HY.out; omega, rfl, HG2.out⟩
            case measure => have := HY.out; simp [intOf]; omega
      · have hb3 : decide (y < d) = false := decide_eq_false hyd
        obtain ⟨t0, t1, t2, t3, t4, t5⟩ := (HX.out.grows hgr).cells
        obtain ⟨s0, s1, s2, s3⟩ := HB.out.grows hgr
        have haa : (a == a) = true := by simp
        have hbb : (b == b) = true := by simp
        have hcc : (c == c) = true := by simp
        have hdd : (d == d) = true := by simp
        go_wp2_with fail
        go_ret
        exact ⟨rfl, HG.out.step hgr⟩
  · have HF := Lib.hid hf
    clear hf
    go_wp2_with fail
    refine (fine_no _ _ _ _ _ HF.out ha hb).mono ?_
    rintro e w5 ⟨rfl, hg5⟩
    go_wp2_with fail
    go_ret
    exact ⟨rfl, HG.out.step hg5⟩

set_option linter.unusedVariables false
set_option maxRecDepth 100000 in
theorem lifted (os : Os) (started : os.Started) (H : Type) (enc : TypeId × Value → H) :
    ReturnsInHanded {} Try.checked os 10 .any (Rows.fnCMYKSubAllSpec.pre6 enc Try.prog Try.f10 Rows.fnCMYKSubAllRow.domain false) (Rows.fnCMYKSubAllSpec.post enc Try.prog Try.f10 false true false false) := by
  refine returnsInHanded_of_change_sized (C := Try.checked) own started (by kernel_rfl) Try.func10
    (ChangeSpec.witness6 (enc := enc) (C := Try.checked) false ⟨#[], #[.agg #[.int .i64 0, .int .i64 0, .int .i64 0, .int .i64 0], .slice none 0 0], []⟩ 8 (by kernel_rfl) (by kernel_rfl) (by kernel_rfl) (by kernel_rfl)) ?_
  intro W base args ds gs before hval0 hW hcnd hsz0 _
  have hval : ∀ (j : Nat) t v, Try.f10.params[j]? = some t → args[j]? = some v → Value.okWide Try.prog W .any base t v := hval0
  have hsz : (DataW.weightsEach Try.prog (Try.f10.params.toList ++ Rows.fnCMYKSubAllSpec.plain.varTypes Try.prog) (ds ++ gs)).all (· ≤ reachBytes) = true := hsz0
  clear hsz0
  have hW' := hW
  obtain ⟨p, q, hA0, hV, rfl, hfz, hnd⟩ := hW
  have hA : DataW.TrodAll enc Try.prog W 0 (fun _ => true) true Try.f10.params.toList args.toList ds p := hA0
  rw [Try.params10] at hA hval hsz
  obtain ⟨v0, vs0, d0, ds0, p0, q0, hargs, rfl, rfl, h0, r0⟩ := trodAll_cons hA
  obtain ⟨v1, vs1, d1, ds1, p1, q1, rfl, rfl, rfl, h1, r1⟩ := trodAll_cons r0
  obtain ⟨rfl, rfl, rfl⟩ := trodAll_nil r1
  obtain rfl : args = #[v0, v1] := by cases args; simp_all
  obtain ⟨rfl, rfl⟩ := trodVars_none hV
  have k0 := h0
  have lt0 : ∀ x ∈ p0, x.block < W.heap.size := by obtain ⟨m, hm⟩ := k0; exact DataW.trod_lt m _ _ _ hm
  have k1 := h1
  have lt1 : ∀ x ∈ p1, x.block < W.heap.size := by obtain ⟨m, hm⟩ := k1; exact DataW.trod_lt m _ _ _ hm
  obtain ⟨s0a, s0b, s0c, s0d, rfl, ⟨b0a, b0b, b0c, b0d⟩⟩ := open_four Try.underlying39 (by kernel_rfl) cells39 (hval 0 39 v0 rfl rfl) h0
  obtain ⟨z1, hz1⟩ := open_list (hval 1 22 v1 rfl rfl) h1 (fun el sp hd => by subst hd; exact sized_slice hsz (j := 1) (t := 22) (e := 3) rfl rfl Try.underlying22)
  refine (walk s0a s0b s0c s0d v1 z1 W b0a b0b b0c b0d hz1).mono fun e W' ⟨he, bel⟩ => ?_
  subst he
  exact ⟨_, rfl, _, _, _, [], _, [], hW', trodAll_mk1 (shut_bool Try.underlying4 _), (trodAll_cons_mk (Below.trod laidOut (by kernel_rfl) (of_decide_eq_true (by kernel_rfl)) k0 bel lt0) (trodAll_cons_mk (Below.trod laidOut (by kernel_rfl) (of_decide_eq_true (by kernel_rfl)) k1 bel lt1) trodAll_mk0)), rfl, bel.frame _, fun h => by cases h⟩

theorem proved : Rows.FnCMYKSubAllSaid :=
  OpenClaim.holds_of_wide 10 Try.f10 rfl rfl rfl rfl rfl rfl rfl ⟨rfl, rfl, rfl, rfl, rfl⟩ rfl rfl rfl rfl rfl (by kernel_rfl) Try.func10 (by kernel_rfl)
    (of_decide_eq_true (by kernel_rfl)) (by unfold Func.isWrapper; first | (rw [if_pos (by decide +kernel)]; kernel_rfl) | (rw [if_neg (by decide +kernel)]; exact ⟨rfl, rfl⟩))
    (fun os started H enc _ => lifted os started H enc)
#print axioms proved
end Go.Proofs.Ytfnmgkbeeckjnaa.lawCMYKSubAll

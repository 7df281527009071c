/-
  FnYCbCrNewBounds returns true for every input, and each argument reads afterwards as before. Conditions: none beyond the row's own.
-/
import Derived.Test.YtjcaibhodplojaaYSample
import Derived.Test.YtjcaibhodplojaaLift
import Derived.Deep.Cut
namespace Go.Proofs.Ytjcaibhodplojaa.lawYCbCrNewBounds
open Go.ChangeShapes Go.WideShapes Go.ChangeAt Go.RowKit
set_option linter.unusedVariables false

set_option maxRecDepth 20000 in
set_option maxHeartbeats 4000000 in
theorem walk (a b c d r : Int) (w : World) (ha : I64 a) (hb : I64 b) (hc : I64 c) (hd : I64 d) (hr : I64 r) :
    Calls Try.prog 4 #[box4 a b c d, .int .i64 r] w fun e w' => e = .returned (.bool true) ∧ Grows w w' := by
  by_cases hp : PlainY a b c d r
  · have HP := Lib.hid hp
    have hn0 := hp.nY_eq.2
    have hn1 := hp.nC_eq.2
    have hcw := hp.cw
    obtain ⟨⟨⟨f1, f2⟩, ⟨f3, f4⟩, ⟨f5, f6⟩, ⟨f7, f8⟩⟩, ⟨g1, g2⟩, ⟨g3, g4⟩, ⟨r0, r5⟩⟩ := hp
    have hrr : (r != r) = false := by simp
    go_enter Try.func4, Try.ntmps4
    go_wp2_with fail
    refine (plainY_yes _ _ _ _ _ _ HP.out).mono ?_
    rintro e w1 ⟨rfl, hg1⟩
    have q0 : w1.cell? ⟨w.heap.size, 0, none⟩ = some (.int .i64 a) := hg1.cell_some (by simp)
    have q1 : w1.cell? ⟨w.heap.size, 1, none⟩ = some (.int .i64 b) := hg1.cell_some (by simp)
    have q2 : w1.cell? ⟨w.heap.size, 2, none⟩ = some (.int .i64 c) := hg1.cell_some (by simp)
    have q3 : w1.cell? ⟨w.heap.size, 3, none⟩ = some (.int .i64 d) := hg1.cell_some (by simp)
    have HR0 : Hid (BoxAt w1 w.heap.size a b c d) := ⟨q0, q1, q2, q3⟩
    have HG : Hid (Grows w w1) := ((Grows.rfl' w).alloc' _).step hg1
    clear hg1
    go_wp2_with fail
    refine (asRect_any _ _ _ _ _).mono ?_
    rintro e w2 ⟨rfl, hg2⟩
    replace HR0 := Lib.hid (HR0.out.grows hg2)
    replace HG := Lib.hid (HG.out.step hg2)
    clear hg2 q0 q1 q2 q3
    go_upto_region 4 with fail
    have HB : Hid (BoxAt (w2.alloc (.cells #[.int .i64 a, .int .i64 b, .int .i64 c, .int .i64 d] 26)) w2.heap.size a b c d) := ⟨cell_top rfl rfl, cell_top rfl rfl, cell_top rfl rfl, cell_top rfl rfl⟩
    have hgw : Grows w2 (w2.alloc (.cells #[.int .i64 a, .int .i64 b, .int .i64 c, .int .i64 d] 26)) := (Grows.rfl' _).alloc' _
    replace HR0 := Lib.hid (HR0.out.grows hgw)
    replace HG := Lib.hid (HG.out.step hgw)
    clear hgw
    generalize w2.alloc (.cells #[.int .i64 a, .int .i64 b, .int .i64 c, .int .i64 d] 26) = w3 at *
    generalize w2.heap.size = bx at *
    obtain ⟨q0, q1, q2, q3⟩ := HR0.out
    obtain ⟨s0, s1, s2, s3⟩ := HB.out
    go_wp2_with fail
    refine (implNewY_any _ _ _ _ _ _ HP.out).mono ?_
    rintro e w5 ⟨vp, rfl, p1, p2, p3, rfl, ho1, ho2, ho3⟩
    have HL1 := Lib.hid (ho1.rd (by rw [bytesOf_length]; omega) (bytesOf_in fun _ _ => by omega))
    have HL2 := Lib.hid (ho2.rd (by rw [bytesOf_length]; omega) (bytesOf_in fun _ _ => by omega))
    have HL3 := Lib.hid (ho3.rd (by rw [bytesOf_length]; omega) (bytesOf_in fun _ _ => by omega))
    obtain ⟨B1, e1, rfl⟩ := ho1.formN (bytesOf_length _ _)
    obtain ⟨B2, e2, rfl⟩ := ho2.formN (bytesOf_length _ _)
    obtain ⟨B3, e3, rfl⟩ := ho3.formN (bytesOf_length _ _)
    replace HR0 := Lib.hid (HR0.out.grows ho1.2)
    replace HB := Lib.hid (HB.out.grows ho1.2)
    replace HG := Lib.hid (HG.out.step ho1.2)
    clear q0 q1 q2 q3 s0 s1 s2 s3
    obtain ⟨q0, q1, q2, q3⟩ := HR0.out
    obtain ⟨s0, s1, s2, s3⟩ := HB.out
    clear ho1 ho2 ho3
    go_upto_region 5 with fail
    have HX : Hid (PlAt (w5.alloc (.cells #[.int .i64 a, .int .i64 b, .int .i64 c, .int .i64 d, .int .i64 (c - a), .int .i64 (acr a c (hsp r)), .int .i64 r, .slice B1 (nY a b c d) e1, .slice B2 (nC a b c d r) e2, .slice B3 (nC a b c d r) e3] 29)) w5.heap.size a b c d (c - a) (acr a c (hsp r)) r (.slice B1 (nY a b c d) e1) (.slice B2 (nC a b c d r) e2) (.slice B3 (nC a b c d r) e3)) := heap_alloc_new _ _
    have hgw : Grows w5 (w5.alloc (.cells #[.int .i64 a, .int .i64 b, .int .i64 c, .int .i64 d, .int .i64 (c - a), .int .i64 (acr a c (hsp r)), .int .i64 r, .slice B1 (nY a b c d) e1, .slice B2 (nC a b c d r) e2, .slice B3 (nC a b c d r) e3] 29)) := (Grows.rfl' _).alloc' _
    replace HR0 := Lib.hid (HR0.out.grows hgw)
    replace HB := Lib.hid (HB.out.grows hgw)
    replace HG := Lib.hid (HG.out.step hgw)
    clear q0 q1 q2 q3 s0 s1 s2 s3
    obtain ⟨q0, q1, q2, q3⟩ := HR0.out
    obtain ⟨s0, s1, s2, s3⟩ := HB.out
    replace HL1 := Lib.hid (HL1.out.grows hgw)
    replace HL2 := Lib.hid (HL2.out.grows hgw)
    replace HL3 := Lib.hid (HL3.out.grows hgw)
    clear hgw
    generalize w5.alloc (.cells #[.int .i64 a, .int .i64 b, .int .i64 c, .int .i64 d, .int .i64 (c - a), .int .i64 (acr a c (hsp r)), .int .i64 r, .slice B1 (nY a b c d) e1, .slice B2 (nC a b c d r) e2, .slice B3 (nC a b c d r) e3] 29) = w6 at *
    generalize w5.heap.size = pbx at *
    obtain ⟨t0, t1, t2, t3, t4, t5, t6, t7, t8, t9⟩ := HX.out.cells
    go_wp2_with fail
    clear s0 s1 s2 s3 t0 t1 t2 t3 t4 t5 t6 t7 t8 t9 HB
    go_loopw [7, 8, 9, 10] (fun yv _ _ _ wr => ∃ y : Int, b ≤ y ∧ y ≤ d ∧ yv = .int .i64 y ∧ Grows w6 wr) (fun yv _ _ _ _ => (d - intOf yv).toNat)
    case atStart => exact ⟨b, by omega, by omega, rfl, Grows.rfl' _⟩
    case round =>
      obtain ⟨y, hy1, hy2, rfl, hgr⟩ := hrel
      have z0 := hgr.cell_some q0
      have z2 := hgr.cell_some q2
      have z3 := hgr.cell_some q3
      by_cases hyd : y < d
      · have hb1 : decide (y < d) = true := decide_eq_true hyd
        have HGR := Lib.hid hgr
        clear hgr
        obtain ⟨wo, rfl⟩ : ∃ wo : World, wo = wr := ⟨_, rfl⟩
        go_wp2_with fail
        go_loopw [8, 9, 10] (fun xv _ _ wr => ∃ x : Int, a ≤ x ∧ x ≤ c ∧ xv = .int .i64 x ∧ Grows wo wr) (fun xv _ _ _ => (c - intOf xv).toNat)
        case atStart => exact ⟨a, by omega, by omega, rfl, Grows.rfl' _⟩
        case round =>
          obtain ⟨x, hx1, hx2, rfl, hgr2⟩ := hrel
          have hg2 := HGR.out.step hgr2
          have u2 := hg2.cell_some q2
          by_cases hxc : x < c
          · obtain ⟨t0, t1, t2, t3, t4, t5, t6, t7, t8, t9⟩ := (HX.out.grows hg2).cells
            have hb2 : decide (x < c) = true := decide_eq_true hxc
            obtain ⟨hi, hil⟩ := HP.out.yAt_eq (x := x) (y := y) ⟨hx1, hxc, hy1, hyd⟩
            obtain ⟨hk, hkl⟩ := HP.out.cAt_eq (x := x) (y := y) ⟨hx1, hxc, hy1, hyd⟩
            have HSA : Hid (Calls Try.prog 15 #[.agg #[.int .i64 a, .int .i64 b, .int .i64 c, .int .i64 d, .int .i64 (c - a), .int .i64 (acr a c (hsp r)), .int .i64 r, .slice B1 (nY a b c d) e1, .slice B2 (nC a b c d r) e2, .slice B3 (nC a b c d r) e3], .int .i64 x, .int .i64 y] wr fun e w' => e = .returned (.tuple #[.agg #[.int .i64 0, .int .i64 0, .int .i64 0, .int .i64 0], .bool true]) ∧ Grows wr w') :=
              sampleAt_in a b c d _ _ r x y 0 0 0 (yAt a b c x y) (cAt a b c r x y) _ _ _ _ _ _ wr (HL1.out.grows hg2) (HL2.out.grows hg2) (HL3.out.grows hg2) r0 r5 g1 g2 hx1 (by omega) hy1 (by omega) (by omega) (by omega) (by omega) (by omega) (by omega) (by omega) hi hk (bytesOf_at hil) (bytesOf_at hkl) (bytesOf_at hkl)
            clear hg2 hi hil hk hkl
            go_wp2_with fail
            refine HSA.out.mono ?_
            rintro e w7 ⟨rfl, hg7⟩
            go_wp2_with fail
            go_roundw
            case rel => exact ⟨x + 1, by omega, by omega, rfl, (hgr2.step hg7).alloc' _⟩
            case measure => simp [intOf]; omega
          · have hb2 : decide (x < c) = false := decide_eq_false hxc
            go_wp2_with fail
            go_roundw
            case rel => exact ⟨y + 1, by omega, by omega, rfl, hg2⟩
            case measure => simp [intOf]; omega
      · have hb1 : decide (y < d) = false := decide_eq_false hyd
        go_wp2_with fail
        go_ret
        exact ⟨rfl, HG.out.step hgr⟩
  · have HP := Lib.hid hp
    clear hp
    go_enter Try.func4, Try.ntmps4
    go_wp2_with fail
    refine (plainY_no _ _ _ _ _ _ HP.out ha hb).mono ?_
    rintro e w1 ⟨rfl, hg1⟩
    go_wp2_with fail
    go_ret
    exact ⟨rfl, ((Grows.rfl' w).alloc' _).step hg1⟩

set_option linter.unusedVariables false
set_option maxRecDepth 100000 in
theorem lifted (os : Os) (started : os.Started) (H : Type) (enc : TypeId × Value → H) :
    ReturnsInHanded {} Try.checked os 4 .any (Rows.fnYCbCrNewBoundsSpec.pre6 enc Try.prog Try.f4 Rows.fnYCbCrNewBoundsRow.domain false) (Rows.fnYCbCrNewBoundsSpec.post enc Try.prog Try.f4 false true false false) := by
  refine returnsInHanded_of_change_sized (C := Try.checked) own started (by kernel_rfl) Try.func4
    (ChangeSpec.witness6 (enc := enc) (C := Try.checked) false ⟨#[], #[.agg #[.int .i64 0, .int .i64 0, .int .i64 0, .int .i64 0], .int .i64 0], []⟩ 8 (by kernel_rfl) (by kernel_rfl) (by kernel_rfl) (by kernel_rfl)) ?_
  intro W base args ds gs before hval0 hW hcnd hsz0 _
  have hval : ∀ (j : Nat) t v, Try.f4.params[j]? = some t → args[j]? = some v → Value.okWide Try.prog W .any base t v := hval0
  have hsz : (DataW.weightsEach Try.prog (Try.f4.params.toList ++ Rows.fnYCbCrNewBoundsSpec.plain.varTypes Try.prog) (ds ++ gs)).all (· ≤ reachBytes) = true := hsz0
  clear hsz0
  have hW' := hW
  obtain ⟨p, q, hA0, hV, rfl, hfz, hnd⟩ := hW
  have hA : DataW.TrodAll enc Try.prog W 0 (fun _ => true) true Try.f4.params.toList args.toList ds p := hA0
  rw [Try.params4] at hA hval hsz
  obtain ⟨v0, vs0, d0, ds0, p0, q0, hargs, rfl, rfl, h0, r0⟩ := trodAll_cons hA
  obtain ⟨v1, vs1, d1, ds1, p1, q1, rfl, rfl, rfl, h1, r1⟩ := trodAll_cons r0
  obtain ⟨rfl, rfl, rfl⟩ := trodAll_nil r1
  obtain rfl : args = #[v0, v1] := by cases args; simp_all
  obtain ⟨rfl, rfl⟩ := trodVars_none hV
  have k0 := h0
  have lt0 : ∀ x ∈ p0, x.block < W.heap.size := by obtain ⟨m, hm⟩ := k0; exact DataW.trod_lt m _ _ _ hm
  have k1 := h1
  have lt1 : ∀ x ∈ p1, x.block < W.heap.size := by obtain ⟨m, hm⟩ := k1; exact DataW.trod_lt m _ _ _ hm
  obtain ⟨s0a, s0b, s0c, s0d, rfl, ⟨b0a, b0b, b0c, b0d⟩⟩ := open_four Try.underlying23 (by kernel_rfl) cells23 (hval 0 23 v0 rfl rfl) h0
  obtain ⟨x1, rfl, he1, _, w1⟩ := open_int Try.underlying3 (hval 1 3 v1 rfl rfl) h1
  refine (walk s0a s0b s0c s0d x1 W b0a b0b b0c b0d (bounds_i64 w1)).mono fun e W' ⟨he, bel⟩ => ?_
  subst he
  exact ⟨_, rfl, _, _, _, [], _, [], hW', trodAll_mk1 (shut_bool Try.underlying4 _), (trodAll_cons_mk (Below.trod laidOut (by kernel_rfl) (of_decide_eq_true (by kernel_rfl)) k0 bel lt0) (trodAll_cons_mk (Below.trod laidOut (by kernel_rfl) (of_decide_eq_true (by kernel_rfl)) k1 bel lt1) trodAll_mk0)), rfl, bel.frame _, fun h => by cases h⟩

theorem proved : Rows.FnYCbCrNewBoundsSaid :=
  OpenClaim.holds_of_wide 4 Try.f4 rfl rfl rfl rfl rfl rfl rfl ⟨rfl, rfl, rfl, rfl, rfl⟩ rfl rfl rfl rfl rfl (by kernel_rfl) Try.func4 (by kernel_rfl)
    (of_decide_eq_true (by kernel_rfl)) (by unfold Func.isWrapper; first | (rw [if_pos (by decide +kernel)]; kernel_rfl) | (rw [if_neg (by decide +kernel)]; exact ⟨rfl, rfl⟩))
    (fun os started H enc _ => lifted os started H enc)
#print axioms proved
end Go.Proofs.Ytjcaibhodplojaa.lawYCbCrNewBounds

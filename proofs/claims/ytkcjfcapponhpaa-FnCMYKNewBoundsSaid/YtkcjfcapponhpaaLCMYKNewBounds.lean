/-
  FnCMYKNewBounds returns true for every rectangle, and each argument reads afterwards as before. Conditions: none beyond the row's own.
-/
import Derived.Test.YtkcjfcapponhpaaNew
import Derived.Test.YtkcjfcapponhpaaAt
import Derived.Test.YtkcjfcapponhpaaLift
namespace Go.Proofs.Ytkcjfcapponhpaa.lawCMYKNewBounds
open Go.ChangeShapes Go.WideShapes Go.ChangeAt Go.RowKit
set_option linter.unusedVariables false

theorem zero_in (n : Nat) : ∀ m ∈ bytesOf n (fun _ => 0), -9223372036854775808 ≤ m ∧ m ≤ 9223372036854775807 := bytesOf_in (fun _ _ => by omega)

set_option maxHeartbeats 1000000 in
theorem walk (a b c d : Int) (w : World) (ha : -9223372036854775808 ≤ a ∧ a ≤ 9223372036854775807) (hb : -9223372036854775808 ≤ b ∧ b ≤ 9223372036854775807) (hc : -9223372036854775808 ≤ c ∧ c ≤ 9223372036854775807) (hd : -9223372036854775808 ≤ d ∧ d ≤ 9223372036854775807) :
    Calls Try.prog 4 #[box4 a b c d] w fun e w' => e = .returned (.bool true) ∧ Grows w w' := by
  by_cases hf : Fine a b c d
  · have HF := Lib.hid hf
    have htl := total_le (k := 4) (by omega) hf
    have hsd := sd_in (k := 4) (by omega) hf
    obtain ⟨⟨f1, f2⟩, ⟨f3, f4⟩, ⟨f5, f6⟩, ⟨f7, f8⟩⟩ := hf
    go_enter Try.func4, Try.ntmps4
    go_wp2_with fail
    refine (fine_yes _ _ _ _ _ HF.out).mono ?_
    rintro e w1 ⟨rfl, hg1⟩
    obtain ⟨hcq, _⟩ := hg1.cells
    go_wp2_with fail
    refine (asRect_any _ _ _ _ _).mono ?_
    rintro e w2 ⟨rfl, hg2⟩
    go_wp2_with fail
    refine ((implNew_any _ _ _ _ _ HF.out).mono fun e w' h => h.isPic (by rw [bytesOf_length]; omega) (zero_in _)).mono ?_
    rintro e w3 ⟨v, rfl, hg3, p, rfl, hr⟩
    have hg13 := hg1.step (hg2.step hg3)
    have q0 : w3.cell? ⟨w.heap.size, 0, none⟩ = some (.int .i64 a) := hg13.cell_some (by simp)
    have q1 : w3.cell? ⟨w.heap.size, 1, none⟩ = some (.int .i64 b) := hg13.cell_some (by simp)
    have q2 : w3.cell? ⟨w.heap.size, 2, none⟩ = some (.int .i64 c) := hg13.cell_some (by simp)
    have q3 : w3.cell? ⟨w.heap.size, 3, none⟩ = some (.int .i64 d) := hg13.cell_some (by simp)
    have hsz : w.heap.size < w3.heap.size := cell_lt q0
    have HR := Lib.hid hr
    have HG : Hid (Grows w w3) := ((Grows.rfl' w).alloc' _).step hg13
    obtain ⟨A, cc, rfl, _⟩ := hr
    clear hg1 hg2 hg3 hg13 hcq
    have HZ : Hid ((bytesOf (total a b c d 4) (fun _ => 0)).length = total a b c d 4) := bytesOf_length _ _
    generalize bytesOf (total a b c d 4) (fun _ => 0) = zs at *
    go_wp2_with fail
    apply wp_region_lex_lit 5 (by kernel_rfl) (by kernel_rfl)
    iterate 5
      apply lex_pin
      · intro wq hgq hdq Kq hKq
        obtain ⟨hcq, _⟩ := hgq.cells
        go_wp2_with ((go_at_call 13; refine (asRect_any _ _ _ _ _).mono ?_); rintro e wq' ⟨rfl, hgq'⟩)
        first | exact hKq _ (Grows.rfl' _) | exact hKq _ hgq'
      · kernel_rfl
    refine lex_end ?_
    intro w5 hg5 _
    have hg35 : Grows w3 w5 := ((Grows.rfl' w3).alloc' _).drew'.step hg5
    have r0 : w5.cell? ⟨w3.heap.size, 0, none⟩ = some (.int .i64 a) := hg5.cell_some (by simp)
    have r1 : w5.cell? ⟨w3.heap.size, 1, none⟩ = some (.int .i64 b) := hg5.cell_some (by simp)
    have r2 : w5.cell? ⟨w3.heap.size, 2, none⟩ = some (.int .i64 c) := hg5.cell_some (by simp)
    have r3 : w5.cell? ⟨w3.heap.size, 3, none⟩ = some (.int .i64 d) := hg5.cell_some (by simp)
    have r4 : w5.cell? ⟨w3.heap.size, 4, none⟩ = some (.int .i64 (sd a c 4)) := hg5.cell_some (by simp)
    have r5 : w5.cell? ⟨w3.heap.size, 5, none⟩ = some (.slice A zs.length cc) := hg5.cell_some (by simp)
    have s0 := hg35.cell_some q0
    have s1 := hg35.cell_some q1
    have s2 := hg35.cell_some q2
    have s3 := hg35.cell_some q3
    have HP : Hid (IsPic a b c d (sd a c 4) zs (.agg #[.int .i64 a, .int .i64 b, .int .i64 c, .int .i64 d, .int .i64 (sd a c 4), .slice A zs.length cc]) w5) := ⟨_, rfl, HR.out.grows hg35⟩
    have HG5 := Lib.hid (HG.out.step hg35)
    clear hg5 hg35 q0 q1 q2 q3 HR HG hsz
    generalize w3.heap.size = pbx at *
    go_wp2_with fail
    go_loopw [4, 5, 6, 7] (fun yv _ _ _ wr => ∃ y : Int, b ≤ y ∧ y ≤ d ∧ yv = .int .i64 y ∧ Grows w5 wr) (fun yv _ _ _ _ => (d - intOf yv).toNat)
    case atStart => exact ⟨b, by omega, by omega, rfl, Grows.rfl' _⟩
    case round =>
      obtain ⟨y, hy1, hy2, rfl, hgr⟩ := hrel
      by_cases hyd : y < d
      · have t0 := hgr.cell_some s0
        have t3 := hgr.cell_some s3
        have hb1 : decide (y < d) = true := decide_eq_true hyd
        have HGR := Lib.hid hgr
        clear hgr
        obtain ⟨wo, rfl⟩ : ∃ wo : World, wo = wr := ⟨_, rfl⟩
        go_wp2_with fail
        go_loopw [5, 6, 7] (fun xv _ _ wr => ∃ x : Int, a ≤ x ∧ x ≤ c ∧ xv = .int .i64 x ∧ Grows wo wr) (fun xv _ _ _ => (c - intOf xv).toNat)
        case atStart => exact ⟨a, by omega, by omega, rfl, Grows.rfl' _⟩
        case round =>
          obtain ⟨x, hx1, hx2, rfl, hgr2⟩ := hrel
          have hg2 := HGR.out.step hgr2
          have u2 := hg2.cell_some s2
          by_cases hxc : x < c
          · have u0 := hg2.cell_some r0
            have u1 := hg2.cell_some r1
            have u2' := hg2.cell_some r2
            have u3 := hg2.cell_some r3
            have u4 := hg2.cell_some r4
            have u5 := hg2.cell_some r5
            have HP2 := Lib.hid (IsPic.keep _ _ _ hg2 HP.out)
            have hb2 : decide (x < c) = true := decide_eq_true hxc
            obtain ⟨i, hi, hil⟩ := inside_at (k := 4) (x := x) (y := y) HF.out (by omega) ⟨hx1, hxc, hy1, hyd⟩
            have HI := Lib.hid hi
            have HL : Hid (i + 4 ≤ zs.length) := by unfold Hid; rw [HZ.out]; exact hil
            clear hg2 hi hil
            go_wp2_with fail
            refine (at_yes a b c d (sd a c 4) x y 4 i _ zs _ HP2.out (by omega) (by omega) (by omega) (by omega) (by omega) (by omega) (by omega) (by omega) HI.out HL.out).mono ?_
            rintro e w6 ⟨s, rfl, _, hg6⟩
            go_wp2_with fail
            go_roundw
            case rel => exact ⟨x + 1, by omega, by omega, rfl, hgr2.step hg6⟩
            case measure => simp [intOf]; omega
          · have hb2 : decide (x < c) = false := decide_eq_false hxc
            go_wp2_with fail
            go_roundw
            case rel => exact ⟨y + 1, by omega, by omega, rfl, hg2⟩
            case measure => simp [intOf]; omega
      · have t3 := hgr.cell_some s3
        have hb1 : decide (y < d) = false := decide_eq_false hyd
        go_wp2_with fail
        go_ret
        exact ⟨rfl, HG5.out.step hgr⟩
  · have HF := Lib.hid hf
    clear hf
    go_enter Try.func4, Try.ntmps4
    go_wp2_with fail
    refine (fine_no _ _ _ _ _ HF.out ha hb).mono ?_
    rintro e w1 ⟨rfl, hg1⟩
    go_wp2_with fail
    go_ret
    exact ⟨rfl, ((Grows.rfl' w).alloc' _).step hg1⟩

set_option linter.unusedVariables false
set_option maxRecDepth 100000 in
theorem lifted (os : Os) (started : os.Started) (H : Type) (enc : TypeId × Value → H) :
    ReturnsInHanded {} Try.checked os 4 .any (Rows.fnCMYKNewBoundsSpec.pre6 enc Try.prog Try.f4 Rows.fnCMYKNewBoundsRow.domain false) (Rows.fnCMYKNewBoundsSpec.post enc Try.prog Try.f4 false true false false) := by
  refine returnsInHanded_of_change_sized (C := Try.checked) own started (by kernel_rfl) Try.func4
    (ChangeSpec.witness6 (enc := enc) (C := Try.checked) false ⟨#[], #[.agg #[.int .i64 0, .int .i64 0, .int .i64 0, .int .i64 0]], []⟩ 8 (by kernel_rfl) (by kernel_rfl) (by kernel_rfl) (by kernel_rfl)) ?_
  intro W base args ds gs before hval0 hW hcnd hsz0 _
  have hval : ∀ (j : Nat) t v, Try.f4.params[j]? = some t → args[j]? = some v → Value.okWide Try.prog W .any base t v := hval0
  have hsz : (DataW.weightsEach Try.prog (Try.f4.params.toList ++ Rows.fnCMYKNewBoundsSpec.plain.varTypes Try.prog) (ds ++ gs)).all (· ≤ reachBytes) = true := hsz0
  clear hsz0
  have hW' := hW
  obtain ⟨p, q, hA0, hV, rfl, hfz, hnd⟩ := hW
  have hA : DataW.TrodAll enc Try.prog W 0 (fun _ => true) true Try.f4.params.toList args.toList ds p := hA0
  rw [Try.params4] at hA hval hsz
  obtain ⟨v0, vs0, d0, ds0, p0, q0, hargs, rfl, rfl, h0, r0⟩ := trodAll_cons hA
  obtain ⟨rfl, rfl, rfl⟩ := trodAll_nil r0
  obtain rfl : args = #[v0] := by cases args; simp_all
  obtain ⟨rfl, rfl⟩ := trodVars_none hV
  have k0 := h0
  have lt0 : ∀ x ∈ p0, x.block < W.heap.size := by obtain ⟨m, hm⟩ := k0; exact DataW.trod_lt m _ _ _ hm
  obtain ⟨s0a, s0b, s0c, s0d, rfl, ⟨b0a, b0b, b0c, b0d⟩⟩ := open_four Try.underlying23 (by kernel_rfl) cells23 (hval 0 23 v0 rfl rfl) h0
  refine (walk s0a s0b s0c s0d W b0a b0b b0c b0d).mono fun e W' ⟨he, bel⟩ => ?_
  subst he
  exact ⟨_, rfl, _, _, _, [], _, [], hW', trodAll_mk1 (shut_bool Try.underlying4 _), (trodAll_cons_mk (Below.trod laidOut (by kernel_rfl) (of_decide_eq_true (by kernel_rfl)) k0 bel lt0) trodAll_mk0), rfl, bel.frame _, fun h => by cases h⟩

theorem proved : Rows.FnCMYKNewBoundsSaid :=
  OpenClaim.holds_of_wide 4 Try.f4 rfl rfl rfl rfl rfl rfl rfl ⟨rfl, rfl, rfl, rfl, rfl⟩ rfl rfl rfl rfl rfl (by kernel_rfl) Try.func4 (by kernel_rfl)
    (of_decide_eq_true (by kernel_rfl)) (by unfold Func.isWrapper; first | (rw [if_pos (by decide +kernel)]; kernel_rfl) | (rw [if_neg (by decide +kernel)]; exact ⟨rfl, rfl⟩))
    (fun os started H enc _ => lifted os started H enc)
#print axioms proved
end Go.Proofs.Ytkcjfcapponhpaa.lawCMYKNewBounds

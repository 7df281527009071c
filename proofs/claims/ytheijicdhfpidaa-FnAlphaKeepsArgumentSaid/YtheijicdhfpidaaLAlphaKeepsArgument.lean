/-
  FnAlphaKeepsArgument returns true for every input, and each argument reads afterwards as before. Conditions: none beyond the row's own.
-/
import Derived.Test.YtheijicdhfpidaaRun
import Derived.Test.YtheijicdhfpidaaCopy
import Derived.Test.YtheijicdhfpidaaLift
import Derived.Deep.Cut
namespace Go.Proofs.Ytheijicdhfpidaa.lawAlphaKeepsArgument
open Go.ChangeShapes Go.WideShapes Go.ChangeAt Go.RowKit
set_option linter.unusedVariables false

theorem own_rd {W w w0 : World} {v v0 : Value} {xs : List Int} (h : OwnI W w v xs) (h0 : RdI w0 v0 xs) : RdI w v xs := by
  obtain ⟨A, c, rfl, _, _, h3, h4, _⟩ := h0
  exact h.rd h3 h4

set_option maxRecDepth 20000 in
set_option maxHeartbeats 4000000 in
theorem walk (a b c d : Int) (vv : Value) (zs : List Int) (x y n : Int) (w : World) (ha : I64 a) (hb : I64 b) (hc : I64 c) (hd : I64 d) (h : RdI w vv zs) (hx : I64 x) (hy : I64 y) (hn : I64 n) :
    Calls Try.prog 8 #[box4 a b c d, vv, .int .i64 x, .int .i64 y, .int .i64 n] w fun e w' => e = .returned (.bool true) ∧ Grows w w' := by
  have H1 := Lib.hid h
  obtain ⟨A1, c1, rfl, _⟩ := h
  go_enter Try.func8, Try.ntmps8
  by_cases hf : Fine a b c d
  · have HF := Lib.hid hf
    have htl := total_le (k := 1) (by omega) hf
    clear hf
    go_wp2_with fail
    refine (fine_yes _ _ _ _ _ HF.out).mono ?_
    rintro e w1 ⟨rfl, hg1⟩
    obtain ⟨hcq, _⟩ := hg1.cells
    have HG : Hid (Grows w w1) := ((Grows.rfl' w).alloc' _).step hg1
    clear hg1
    go_wp2_with fail
    refine (asRect_any _ _ _ _ _).mono ?_
    rintro e w2 ⟨rfl, hg2⟩
    replace HG := Lib.hid (HG.out.step hg2)
    clear hg2 hcq
    go_upto_region 4 with fail
    have HB : Hid (BoxAt (w2.alloc (.cells #[.int .i64 a, .int .i64 b, .int .i64 c, .int .i64 d] 26)) w2.heap.size a b c d) := ⟨cell_top rfl rfl, cell_top rfl rfl, cell_top rfl rfl, cell_top rfl rfl⟩
    replace HG := Lib.hid (HG.out.alloc' (.cells #[.int .i64 a, .int .i64 b, .int .i64 c, .int .i64 d] 26))
    generalize w2.alloc (.cells #[.int .i64 a, .int .i64 b, .int .i64 c, .int .i64 d] 26) = w3 at *
    generalize w2.heap.size = bx at *
    go_wp2_with (at_builtin; refine copy_wp rfl _ _ rfl w3 _ zs rfl rfl (H1.out.grows HG.out) (Grows.rfl' _) ?_; intro v1 w4 o1 g1
                 have O1 := Lib.hid (own_rd o1 H1.out)
                 obtain ⟨B1, e1, rfl⟩ := o1.form
                 replace HB := Lib.hid (HB.out.grows g1)
                 replace HG := Lib.hid (HG.out.step g1)
                 clear o1 g1
                 obtain ⟨s0, s1, s2, s3⟩ := HB.out)
    refine (write_any a b c d x y n _ zs w4 HF.out O1.out).mono ?_
    rintro e w5 ⟨vp, rfl, ho⟩
    obtain ⟨C1, k1, rfl⟩ := ho.form
    have HP := Lib.hid ho
    clear ho s0 s1 s2 s3
    obtain ⟨F, hFF⟩ : ∃ F, F = bytesOf (total a b c d 1) (wr a b c d 1 (byteAt zs) x y [n % 256]) := ⟨_, rfl⟩
    have HFF := Lib.hid hFF
    have HFL : Hid (F.length ≤ 4000000 ∧ ∀ m ∈ F, -9223372036854775808 ≤ m ∧ m ≤ 9223372036854775807) := by
      rw [hFF]
      exact ⟨by rw [bytesOf_length]; omega, bytesOf_in fun i _ => by have := wr_in255 (a := a) (b := b) (c := c) (d := d) (x := x) (y := y) (k := 1) (byteAt_in zs) (ns := [n % 256]) (by intro m hm; simp at hm; omega) i; omega⟩
    rw [← hFF] at HP ⊢
    clear hFF
    go_upto_region 6 with fail
    have hgw := HP.out.2.alloc' (.cells #[.int .i64 a, .int .i64 b, .int .i64 c, .int .i64 d, .int .i64 (sd a c 1), .slice C1 F.length k1] 33)
    have HX : Hid (PicAt (w5.alloc (.cells #[.int .i64 a, .int .i64 b, .int .i64 c, .int .i64 d, .int .i64 (sd a c 1), .slice C1 F.length k1] 33)) w5.heap.size a b c d (sd a c 1) (.slice C1 F.length k1)) := heap_alloc_new _ _
    have HPR : Hid (RdI (w5.alloc (.cells #[.int .i64 a, .int .i64 b, .int .i64 c, .int .i64 d, .int .i64 (sd a c 1), .slice C1 F.length k1] 33)) (.slice C1 F.length k1) F) := (HP.out.rd (by have := HFL.out.1; omega) HFL.out.2).grows ((Grows.rfl' _).alloc' _)
    replace HB := Lib.hid (HB.out.grows hgw)
    replace HG := Lib.hid (HG.out.step hgw)
    replace O1 := Lib.hid (O1.out.grows hgw)
    clear hgw HP
    generalize w5.alloc (.cells #[.int .i64 a, .int .i64 b, .int .i64 c, .int .i64 d, .int .i64 (sd a c 1), .slice C1 F.length k1] 33) = w6 at *
    generalize w5.heap.size = pbx at *
    obtain ⟨s0, s1, s2, s3⟩ := HB.out
    go_wp2_with fail
    refine (implRun a b c d _ zs _ [(1, x, y, (n, 0, 0, 0), (0, 0, 0, 0))] _ HF.out (O1.out.grows ((Grows.rfl' _).alloc' _)) (RdS.lit (by simp) (by unfold I64 at hx hy hn; intro s hs m hm; simp only [List.mem_singleton] at hs; subst hs; simp only [nums, List.mem_cons, List.not_mem_nil, or_false] at hm; omega))).mono ?_
    rintro e w7 ⟨vc, vo, vp, offs, rfl, hC, hO, hP7, _⟩
    have eF : bytesOf (total a b c d 1) (runF a b c d 1 (byteAt zs) [(1, x, y, (n, 0, 0, 0), (0, 0, 0, 0))]).2.1 = F := by
      rw [HFF.out, ← putV_whole]
      rfl
    rw [eF] at hP7
    obtain ⟨C2, k2, rfl⟩ := hP7.form
    have HGP : Hid (Grows w6 w7) := ((Grows.rfl' w6).alloc' _).step hC.2
    have HP7 : Hid (RdI w7 (.slice C2 F.length k2) F) := hP7.rd (by have := HFL.out.1; omega) HFL.out.2
    clear hC hO hP7 eF s0 s1 s2 s3
    go_upto_region 7 with fail
    have HX2 : Hid (PicAt (w7.alloc (.cells #[.int .i64 a, .int .i64 b, .int .i64 c, .int .i64 d, .int .i64 (sd a c 1), .slice C2 F.length k2] 33)) w7.heap.size a b c d (sd a c 1) (.slice C2 F.length k2)) := heap_alloc_new _ _
    have hgw := HGP.out.alloc' (.cells #[.int .i64 a, .int .i64 b, .int .i64 c, .int .i64 d, .int .i64 (sd a c 1), .slice C2 F.length k2] 33)
    replace HP7 := Lib.hid (HP7.out.grows ((Grows.rfl' _).alloc' (.cells #[.int .i64 a, .int .i64 b, .int .i64 c, .int .i64 d, .int .i64 (sd a c 1), .slice C2 F.length k2] 33)))
    replace HB := Lib.hid (HB.out.grows hgw)
    replace HG := Lib.hid (HG.out.step hgw)
    replace O1 := Lib.hid (O1.out.grows hgw)
    replace HX := Lib.hid (HX.out.grows hgw)
    replace HPR := Lib.hid (HPR.out.grows hgw)
    clear hgw HGP
    generalize w7.alloc (.cells #[.int .i64 a, .int .i64 b, .int .i64 c, .int .i64 d, .int .i64 (sd a c 1), .slice C2 F.length k2] 33) = w8 at *
    generalize w7.heap.size = pbx2 at *
    go_wp2_with fail
    refine (sameInts_yes _ _ zs _ O1.out (H1.out.grows HG.out)).mono ?_
    rintro e w9 ⟨rfl, g9⟩
    obtain ⟨p0, p1, p2, p3⟩ := HB.out.grows g9
    obtain ⟨t0, t1, t2, t3, t4, t5⟩ := (HX.out.grows g9).cells
    obtain ⟨u0, u1, u2, u3, u4, u5⟩ := (HX2.out.grows g9).cells
    have haa : (a == a) = true := by simp
    have hbb : (b == b) = true := by simp
    have hcc : (c == c) = true := by simp
    have hdd : (d == d) = true := by simp
    have HG9 := Lib.hid (HG.out.step g9)
    have HP1 : Hid (IsPic a b c d (sd a c 1) F (.agg #[.int .i64 a, .int .i64 b, .int .i64 c, .int .i64 d, .int .i64 (sd a c 1), .slice C1 F.length k1]) w9) := ⟨_, rfl, HPR.out.grows g9⟩
    have HP2 : Hid (IsPic a b c d (sd a c 1) F (.agg #[.int .i64 a, .int .i64 b, .int .i64 c, .int .i64 d, .int .i64 (sd a c 1), .slice C2 F.length k2]) w9) := ⟨_, rfl, HP7.out.grows g9⟩
    clear g9
    go_wp2_with fail
    refine (samePicture_yes a b c d (sd a c 1) _ _ F w9 HP1.out HP2.out).mono ?_
    rintro e w10 ⟨rfl, g10⟩
    go_wp2_with fail
    go_ret
    exact ⟨rfl, HG9.out.step g10⟩
  · have HF := Lib.hid hf
    clear hf
    go_wp2_with fail
    refine (fine_no _ _ _ _ _ HF.out ha hb).mono ?_
    rintro e w1 ⟨rfl, hg1⟩
    go_wp2_with fail
    go_ret
    exact ⟨rfl, ((Grows.rfl' w).alloc' _).step hg1⟩

set_option linter.unusedVariables false
set_option maxRecDepth 100000 in
theorem lifted (os : Os) (started : os.Started) (H : Type) (enc : TypeId × Value → H) :
    ReturnsInHanded {} Try.checked os 8 .any (Rows.fnAlphaKeepsArgumentSpec.pre6 enc Try.prog Try.f8 Rows.fnAlphaKeepsArgumentRow.domain false) (Rows.fnAlphaKeepsArgumentSpec.post enc Try.prog Try.f8 false true false false) := by
  refine returnsInHanded_of_change_sized (C := Try.checked) own started (by kernel_rfl) Try.func8
    (ChangeSpec.witness6 (enc := enc) (C := Try.checked) false ⟨#[], #[.agg #[.int .i64 0, .int .i64 0, .int .i64 0, .int .i64 0], .slice none 0 0, .int .i64 0, .int .i64 0, .int .i64 0], []⟩ 8 (by kernel_rfl) (by kernel_rfl) (by kernel_rfl) (by kernel_rfl)) ?_
  intro W base args ds gs before hval0 hW hcnd hsz0 _
  have hval : ∀ (j : Nat) t v, Try.f8.params[j]? = some t → args[j]? = some v → Value.okWide Try.prog W .any base t v := hval0
  have hsz : (DataW.weightsEach Try.prog (Try.f8.params.toList ++ Rows.fnAlphaKeepsArgumentSpec.plain.varTypes Try.prog) (ds ++ gs)).all (· ≤ reachBytes) = true := hsz0
  clear hsz0
  have hW' := hW
  obtain ⟨p, q, hA0, hV, rfl, hfz, hnd⟩ := hW
  have hA : DataW.TrodAll enc Try.prog W 0 (fun _ => true) true Try.f8.params.toList args.toList ds p := hA0
  rw [Try.params8] at hA hval hsz
  obtain ⟨v0, vs0, d0, ds0, p0, q0, hargs, rfl, rfl, h0, r0⟩ := trodAll_cons hA
  obtain ⟨v1, vs1, d1, ds1, p1, q1, rfl, rfl, rfl, h1, r1⟩ := trodAll_cons r0
  obtain ⟨v2, vs2, d2, ds2, p2, q2, rfl, rfl, rfl, h2, r2⟩ := trodAll_cons r1
  obtain ⟨v3, vs3, d3, ds3, p3, q3, rfl, rfl, rfl, h3, r3⟩ := trodAll_cons r2
  obtain ⟨v4, vs4, d4, ds4, p4, q4, rfl, rfl, rfl, h4, r4⟩ := trodAll_cons r3
  obtain ⟨rfl, rfl, rfl⟩ := trodAll_nil r4
  obtain rfl : args = #[v0, v1, v2, v3, v4] := by cases args; simp_all
  obtain ⟨rfl, rfl⟩ := trodVars_none hV
  have k0 := h0
  have lt0 : ∀ x ∈ p0, x.block < W.heap.size := by obtain ⟨m, hm⟩ := k0; exact DataW.trod_lt m _ _ _ hm
  have k1 := h1
  have lt1 : ∀ x ∈ p1, x.block < W.heap.size := by obtain ⟨m, hm⟩ := k1; exact DataW.trod_lt m _ _ _ hm
  have k2 := h2
  have lt2 : ∀ x ∈ p2, x.block < W.heap.size := by obtain ⟨m, hm⟩ := k2; exact DataW.trod_lt m _ _ _ hm
  have k3 := h3
  have lt3 : ∀ x ∈ p3, x.block < W.heap.size := by obtain ⟨m, hm⟩ := k3; exact DataW.trod_lt m _ _ _ hm
  have k4 := h4
  have lt4 : ∀ x ∈ p4, x.block < W.heap.size := by obtain ⟨m, hm⟩ := k4; exact DataW.trod_lt m _ _ _ hm
  obtain ⟨s0a, s0b, s0c, s0d, rfl, ⟨b0a, b0b, b0c, b0d⟩⟩ := open_four Try.underlying23 (by kernel_rfl) cells23 (hval 0 23 v0 rfl rfl) h0
  obtain ⟨z1, hz1⟩ := open_list (hval 1 24 v1 rfl rfl) h1 (fun el sp hd => by subst hd; exact sized_slice hsz (j := 1) (t := 24) (e := 3) rfl rfl Try.underlying24)
  obtain ⟨x2, rfl, he2, _, w2⟩ := open_int Try.underlying3 (hval 2 3 v2 rfl rfl) h2
  obtain ⟨x3, rfl, he3, _, w3⟩ := open_int Try.underlying3 (hval 3 3 v3 rfl rfl) h3
  obtain ⟨x4, rfl, he4, _, w4⟩ := open_int Try.underlying3 (hval 4 3 v4 rfl rfl) h4
  refine (walk s0a s0b s0c s0d v1 z1 x2 x3 x4 W b0a b0b b0c b0d hz1 (bounds_i64 w2) (bounds_i64 w3) (bounds_i64 w4)).mono fun e W' ⟨he, bel⟩ => ?_
  subst he
  exact ⟨_, rfl, _, _, _, [], _, [], hW', trodAll_mk1 (shut_bool Try.underlying4 _), (trodAll_cons_mk (Below.trod laidOut (by kernel_rfl) (of_decide_eq_true (by kernel_rfl)) k0 bel lt0) (trodAll_cons_mk (Below.trod laidOut (by kernel_rfl) (of_decide_eq_true (by kernel_rfl)) k1 bel lt1) (trodAll_cons_mk (Below.trod laidOut (by kernel_rfl) (of_decide_eq_true (by kernel_rfl)) k2 bel lt2) (trodAll_cons_mk (Below.trod laidOut (by kernel_rfl) (of_decide_eq_true (by kernel_rfl)) k3 bel lt3) (trodAll_cons_mk (Below.trod laidOut (by kernel_rfl) (of_decide_eq_true (by kernel_rfl)) k4 bel lt4) trodAll_mk0))))), rfl, bel.frame _, fun h => by cases h⟩

theorem proved : Rows.FnAlphaKeepsArgumentSaid :=
  OpenClaim.holds_of_wide 8 Try.f8 rfl rfl rfl rfl rfl rfl rfl ⟨rfl, rfl, rfl, rfl, rfl⟩ rfl rfl rfl rfl rfl (by kernel_rfl) Try.func8 (by kernel_rfl)
    (of_decide_eq_true (by kernel_rfl)) (by unfold Func.isWrapper; first | (rw [if_pos (by decide +kernel)]; kernel_rfl) | (rw [if_neg (by decide +kernel)]; exact ⟨rfl, rfl⟩))
    (fun os started H enc _ => lifted os started H enc)
#print axioms proved
end Go.Proofs.Ytheijicdhfpidaa.lawAlphaKeepsArgument

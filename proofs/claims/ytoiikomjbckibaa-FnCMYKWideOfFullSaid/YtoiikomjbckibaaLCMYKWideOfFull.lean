/-
  FnCMYKWideOfFull returns true for every color, and each argument reads afterwards as before. Conditions: none beyond the row's own.
-/
import Derived.Test.YtoiikomjbckibaaFull
import Derived.Test.YtoiikomjbckibaaLift
namespace Go.Proofs.Ytoiikomjbckibaa.lawCMYKWideOfFull
open Go.ChangeShapes Go.WideShapes Go.ChangeAt Go.RowKit

/-- All or nothing. -/
def Edge (n : Int) : Prop := n % 256 = 0 ∨ n % 256 = 255

theorem ink_full {n k : Int} (h1 : Edge n) (h2 : Edge k) : ink n k = full n k := by
  unfold ink full
  rcases h1 with h1 | h1 <;> rcases h2 with h2 | h2 <;> rw [h1, h2] <;> decide

theorem four_reads {a b c d : Int} {v : Value} {w : World} (h : Four a b c d v w) (ha : 0 ≤ a ∧ a < 65536) (hb : 0 ≤ b ∧ b < 65536) (hc : 0 ≤ c ∧ c < 65536) (hd : 0 ≤ d ∧ d < 65536) : RdI w v [a, b, c, d] := by
  obtain ⟨g, rfl, hg⟩ := h
  exact quad_reads hg ha hb hc hd

theorem full_reads {a b c d : Int} {W w : World} {v : Value} (h : OwnI W w v [full a d, full b d, full c d, 65535]) : RdI w v [full a d, full b d, full c d, 65535] := by
  refine h.rd (by simp) ?_
  intro n hn
  have h1 := full_in a d
  have h2 := full_in b d
  have h3 := full_in c d
  simp only [List.mem_cons, List.not_mem_nil, or_false] at hn
  rcases hn with rfl | rfl | rfl | rfl <;> omega

set_option maxHeartbeats 1000000 in
theorem walk (a b c d : Int) (w : World) (_ : -9223372036854775808 ≤ a ∧ a ≤ 9223372036854775807) (_ : -9223372036854775808 ≤ b ∧ b ≤ 9223372036854775807) (_ : -9223372036854775808 ≤ c ∧ c ≤ 9223372036854775807) (_ : -9223372036854775808 ≤ d ∧ d ≤ 9223372036854775807) :
    Calls Try.prog 6 #[.agg #[.int .i64 a, .int .i64 b, .int .i64 c, .int .i64 d]] w fun e w' => e = .returned (.bool true) ∧ Grows w w' := by
  go_enter Try.func6, Try.ntmps6
  go_wp2_with fail
  have HG : Hid (Grows w ((w.alloc (.cells #[.int .i64 a, .int .i64 b, .int .i64 c, .int .i64 d] 28)).alloc (.cells #[.int .i64 a, .int .i64 b, .int .i64 c, .int .i64 d] 3))) := ((Grows.rfl' w).alloc' _).alloc' _
  have HC : ∀ k : Nat, k < 4 → ∃ n : Int, ((w.alloc (.cells #[.int .i64 a, .int .i64 b, .int .i64 c, .int .i64 d] 28)).alloc (.cells #[.int .i64 a, .int .i64 b, .int .i64 c, .int .i64 d] 3)).cell? ⟨w.heap.size, k, none⟩ = some (.int .i64 n) ∧
      ((w.alloc (.cells #[.int .i64 a, .int .i64 b, .int .i64 c, .int .i64 d] 28)).alloc (.cells #[.int .i64 a, .int .i64 b, .int .i64 c, .int .i64 d] 3)).cell? ⟨w.heap.size + 1, k, none⟩ = some (.int .i64 n) ∧ [a, b, c, d][k]? = some n := by
    intro k hk
    rcases k with _ | _ | _ | _ | k
    · exact ⟨a, by simp, by simp, rfl⟩
    · exact ⟨b, by simp, by simp, rfl⟩
    · exact ⟨c, by simp, by simp, rfl⟩
    · exact ⟨d, by simp, by simp, rfl⟩
    · omega
  have HH := Lib.hid HC
  clear HC
  generalize (w.alloc (.cells #[.int .i64 a, .int .i64 b, .int .i64 c, .int .i64 d] 28)).alloc (.cells #[.int .i64 a, .int .i64 b, .int .i64 c, .int .i64 d] 3) = w1 at *
  go_loop [4, 15] (fun _ i => ∃ k : Nat, k ≤ 4 ∧ i = .int .i64 k ∧ ∀ j n, j < k → [a, b, c, d][j]? = some n → Edge n) (fun _ i => 4 - (intOf i).toNat)
  case atStart => exact ⟨0, by omega, rfl, fun j n hj => absurd hj (by omega)⟩
  case round =>
    obtain ⟨k, hk, rfl, hed⟩ := hrel
    have HE := Lib.hid hed
    clear hed
    by_cases hlt : k < 4
    · obtain ⟨n, _, hn, hn'⟩ := HH.out k hlt
      have HN := Lib.hid hn'
      clear hn'
      have hb3 : decide ((k : Int) < 4) = true := by simp; omega
      have hcase : (n % 256 != 0) = false ∨ ((n % 256 != 0) = true ∧ (n % 256 != 255) = false) ∨ ((n % 256 != 0) = true ∧ (n % 256 != 255) = true) := by
        cases (n % 256 != 0) <;> cases (n % 256 != 255) <;> simp
      have hstep : Edge n → Hid (∀ j m, j < k + 1 → [a, b, c, d][j]? = some m → Edge m) := fun he j m hj hm => by
        by_cases hjk : j = k
        · subst hjk
          have : n = m := by have := HN.out.symm.trans hm; simpa using this
          subst this
          exact he
        · exact HE.out j m (by omega) hm
      rcases hcase with t1 | ⟨t1, t2⟩ | ⟨t1, t2⟩
      · have HS := hstep (.inl (by simpa using t1))
        clear hstep
        go_wp2_with (go_at_call 18; refine (low_any _ _).mono ?_; rintro e w' ⟨rfl, rfl⟩)
        go_round
        case rel => exact ⟨k + 1, by omega, by go_num, HS.out⟩
        case measure => simp [intOf]; omega
      · have HS := hstep (.inr (by simpa using t2))
        clear hstep
        go_wp2_with (go_at_call 18; refine (low_any _ _).mono ?_; rintro e w' ⟨rfl, rfl⟩)
        go_round
        case rel => exact ⟨k + 1, by omega, by go_num, HS.out⟩
        case measure => simp [intOf]; omega
      · clear hstep
        go_wp2_with (go_at_call 18; refine (low_any _ _).mono ?_; rintro e w' ⟨rfl, rfl⟩)
        go_ret
        exact ⟨rfl, HG.out⟩
    · have hk4 : k = 4 := by omega
      subst hk4
      have ea := HE.out 0 a (by omega) rfl
      have eb := HE.out 1 b (by omega) rfl
      have ec := HE.out 2 c (by omega) rfl
      have ed := HE.out 3 d (by omega) rfl
      have HX : Hid ([ink a d, ink b d, ink c d, 65535] = [full a d, full b d, full c d, 65535]) := by rw [ink_full ea ed, ink_full eb ed, ink_full ec ed]; rfl
      clear ea eb ec ed HE
      obtain ⟨n0, q0, _, e0⟩ := HH.out 0 (by omega)
      obtain ⟨n1, q1, _, e1⟩ := HH.out 1 (by omega)
      obtain ⟨n2, q2, _, e2⟩ := HH.out 2 (by omega)
      obtain ⟨n3, q3, _, e3⟩ := HH.out 3 (by omega)
      obtain rfl : a = n0 := by simpa using e0
      obtain rfl : b = n1 := by simpa using e1
      obtain rfl : c = n2 := by simpa using e2
      obtain rfl : d = n3 := by simpa using e3
      clear e0 e1 e2 e3 HH
      go_wp2_with fail
      apply wp_region_lex_lit (by kernel_rfl) (by kernel_rfl)
      iterate 1
        apply lex_pin
        · intro wq hgq hdq Kq hKq
          have f0 := hgq.cell_some q0
          have f1 := hgq.cell_some q1
          have f2 := hgq.cell_some q2
          have f3 := hgq.cell_some q3
          go_wp2
          exact hKq _ (Grows.rfl' _)
        · kernel_rfl
      apply lex_pin
      · intro wq hgq hdq Kq hKq
        go_wp2_with fail
        refine (asColor_any _ _ _ _ _).mono ?_
        rintro e wq' ⟨rfl, hgq'⟩
        go_wp2_with fail
        exact hKq _ hgq'
      · kernel_rfl
      apply lex_any (Four (ink a d) (ink b d) (ink c d) 65535) (Four.keep)
      · intro wq hgq hdq Kq hKq
        go_wp2_with fail
        refine (cmykWide_any _ _ _ _ _).mono ?_
        rintro e wq' ⟨g1, rfl, hge1, hb1, hgq'⟩
        go_wp2_with fail
        exact hKq _ _ hgq' ⟨g1, rfl, hb1⟩
      intro v30
      simp only [Act.put, List.setIfInBounds_toArray, List.set_cons_succ, List.set_cons_zero]
      iterate 1
        apply lex_pinv
        · intro wq hgq hdq Kq hKq
          have f0 := hgq.cell_some q0
          have f1 := hgq.cell_some q1
          have f2 := hgq.cell_some q2
          have f3 := hgq.cell_some q3
          go_wp2
          exact hKq _ (Grows.rfl' _)
        simp only [Act.put, List.setIfInBounds_toArray, List.set_cons_succ, List.set_cons_zero]
      apply lex_pinv
      · intro wq hgq hdq Kq hKq
        go_wp2_with fail
        refine (asColor_any _ _ _ _ _).mono ?_
        rintro e wq' ⟨rfl, hgq'⟩
        go_wp2_with fail
        exact hKq _ hgq'
      simp only [Act.put, List.setIfInBounds_toArray, List.set_cons_succ, List.set_cons_zero]
      apply lex_any (fun v w => RdI w v [full a d, full b d, full c d, 65535]) (fun v w w' hg h => h.grows hg)
      · intro wq hgq hdq Kq hKq
        go_wp2_with fail
        refine (specCMYKWide_any _ _ _ _ _).mono ?_
        rintro e wq' ⟨v1, rfl, ho1⟩
        go_wp2_with fail
        exact hKq _ _ ho1.2 (full_reads ho1)
      intro v33
      simp only [Act.put, List.setIfInBounds_toArray, List.set_cons_succ, List.set_cons_zero]
      apply lex_pinv (.bool true)
      · intro wq hgq hdq Kq hKq
        have h1 := hdq 2 _ rfl (by kernel_rfl)
        have h2 := hdq 5 _ rfl (by kernel_rfl)
        have H1 := Lib.hid (four_reads h1 (ink_bd _ _) (ink_bd _ _) (ink_bd _ _) (by omega))
        have H2 := Lib.hid h2
        clear h1 h2 hdq
        go_wp2_with fail
        refine (sameInts_any _ _ _ _ _ H1.out H2.out).mono ?_
        rintro e wq' ⟨rfl, hgq'⟩
        have hd : decide ([ink a d, ink b d, ink c d, 65535] = [full a d, full b d, full c d, 65535]) = true := by simpa using HX.out
        rw [hd]
        clear hd
        go_wp2_with fail
        exact hKq _ hgq'
      simp only [Act.put, List.setIfInBounds_toArray, List.set_cons_succ, List.set_cons_zero]
      iterate 1
        apply lex_pinv
        · intro wq hgq hdq Kq hKq
          go_wp2
          exact hKq _ (Grows.rfl' _)
        simp only [Act.put, List.setIfInBounds_toArray, List.set_cons_succ, List.set_cons_zero]
      refine lex_end ?_
      intro w3 hg3 _
      go_wp2
      go_ret
      exact ⟨rfl, HG.out.drew'.step hg3⟩

set_option linter.unusedVariables false
set_option maxRecDepth 100000 in
theorem lifted (os : Os) (started : os.Started) (H : Type) (enc : TypeId × Value → H) :
    ReturnsInHanded {} Try.checked os 6 .any (Rows.fnCMYKWideOfFullSpec.pre6 enc Try.prog Try.f6 Rows.fnCMYKWideOfFullRow.domain false) (Rows.fnCMYKWideOfFullSpec.post enc Try.prog Try.f6 false true false false) := by
  refine returnsInHanded_of_change_sized (C := Try.checked) own started (by kernel_rfl) Try.func6
    (ChangeSpec.witness6 (enc := enc) (C := Try.checked) false ⟨#[], #[.agg #[.int .i64 0, .int .i64 0, .int .i64 0, .int .i64 0]], []⟩ 8 (by kernel_rfl) (by kernel_rfl) (by kernel_rfl) (by kernel_rfl)) ?_
  intro W base args ds gs before hval0 hW hcnd hsz0 _
  have hval : ∀ (j : Nat) t v, Try.f6.params[j]? = some t → args[j]? = some v → Value.okWide Try.prog W .any base t v := hval0
  have hsz : (DataW.weightsEach Try.prog (Try.f6.params.toList ++ Rows.fnCMYKWideOfFullSpec.plain.varTypes Try.prog) (ds ++ gs)).all (· ≤ reachBytes) = true := hsz0
  clear hsz0
  have hW' := hW
  obtain ⟨p, q, hA0, hV, rfl, hfz, hnd⟩ := hW
  have hA : DataW.TrodAll enc Try.prog W 0 (fun _ => true) true Try.f6.params.toList args.toList ds p := hA0
  rw [Try.params6] at hA hval hsz
  obtain ⟨v0, vs0, d0, ds0, p0, q0, hargs, rfl, rfl, h0, r0⟩ := trodAll_cons hA
  obtain ⟨rfl, rfl, rfl⟩ := trodAll_nil r0
  obtain rfl : args = #[v0] := by cases args; simp_all
  obtain ⟨rfl, rfl⟩ := trodVars_none hV
  have k0 := h0
  have lt0 : ∀ x ∈ p0, x.block < W.heap.size := by obtain ⟨m, hm⟩ := k0; exact DataW.trod_lt m _ _ _ hm
  obtain ⟨s0a, s0b, s0c, s0d, rfl, ⟨b0a, b0b, b0c, b0d⟩⟩ := open_four Try.underlying28 (by kernel_rfl) cells28 (hval 0 28 v0 rfl rfl) h0
  refine (walk s0a s0b s0c s0d W b0a b0b b0c b0d).mono fun e W' ⟨he, bel⟩ => ?_
  subst he
  exact ⟨_, rfl, _, _, _, [], _, [], hW', trodAll_mk1 (shut_bool Try.underlying4 _), (trodAll_cons_mk (Below.trod laidOut (by kernel_rfl) (of_decide_eq_true (by kernel_rfl)) k0 bel lt0) trodAll_mk0), rfl, bel.frame _, fun h => by cases h⟩

theorem proved : Rows.FnCMYKWideOfFullSaid :=
  OpenClaim.holds_of_wide 6 Try.f6 rfl rfl rfl rfl rfl rfl rfl ⟨rfl, rfl, rfl, rfl, rfl⟩ rfl rfl rfl rfl rfl (by kernel_rfl) Try.func6 (by kernel_rfl)
    (of_decide_eq_true (by kernel_rfl)) (by unfold Func.isWrapper; first | (rw [if_pos (by decide +kernel)]; kernel_rfl) | (rw [if_neg (by decide +kernel)]; exact ⟨rfl, rfl⟩))
    (fun os started H enc _ => lifted os started H enc)
#print axioms proved
end Go.Proofs.Ytoiikomjbckibaa.lawCMYKWideOfFull

/-
  FnCMYKWideScaled returns true for every color, and each argument reads afterwards as before. Conditions: none beyond the row's own.
-/
import Derived.Test.YtoiikomjbckibaaWide
import Derived.Test.YtoiikomjbckibaaLift
namespace Go.Proofs.Ytoiikomjbckibaa.lawCMYKWideScaled
open Go.ChangeShapes Go.WideShapes Go.ChangeAt Go.RowKit

/-- A slice of three ints in a block that is known. -/
def Three (a b c : Int) (v : Value) (w : World) : Prop := ∃ g : Nat, v = .slice (some ⟨g, 0, none⟩) 3 3 ∧ w.heap[g]? = some (.cells #[.int .i64 a, .int .i64 b, .int .i64 c] 3 (0, 0))
theorem Three.keep {a b c : Int} (v : Value) (w w' : World) (hg : Grows w w') (h : Three a b c v w) : Three a b c v w' := by
  obtain ⟨g, hv, hb⟩ := h
  have hlt : g < w.heap.size := by
    rcases Nat.lt_or_ge g w.heap.size with h | h
    · exact h
    · rw [Array.getElem?_eq_none h] at hb; cases hb
  exact ⟨g, hv, (hg.block g hlt).trans hb⟩

theorem prod_in (n d : Int) (h0 : 0 ≤ n) (h1 : n < 256) : 0 ≤ (65535 - n * 257) * (65535 - d % 256 * 257) ∧ (65535 - n * 257) * (65535 - d % 256 * 257) ≤ 4294836225 := by
  have md := mod256 d
  have e1 : 0 ≤ (65535 - n * 257) * (65535 - d % 256 * 257) := Int.mul_nonneg (by omega) (by omega)
  have e2 : (65535 - n * 257) * (65535 - d % 256 * 257) ≤ 65535 * 65535 := Int.mul_le_mul (by omega) (by omega) (by omega) (by omega)
  omega

set_option maxHeartbeats 1000000 in
theorem walk (a b c d : Int) (w : World) (_ : -9223372036854775808 ≤ a ∧ a ≤ 9223372036854775807) (_ : -9223372036854775808 ≤ b ∧ b ≤ 9223372036854775807) (_ : -9223372036854775808 ≤ c ∧ c ≤ 9223372036854775807) (_ : -9223372036854775808 ≤ d ∧ d ≤ 9223372036854775807) :
    Calls Try.prog 7 #[.agg #[.int .i64 a, .int .i64 b, .int .i64 c, .int .i64 d]] w fun e w' => e = .returned (.bool true) ∧ Grows w w' := by
  go_enter Try.func7, Try.ntmps7
  go_wp2_with fail
  refine (asColor_any _ _ _ _ _).mono ?_
  rintro e w1 ⟨rfl, hg1⟩
  go_wp2_with fail
  refine (cmykWide_any _ _ _ _ _).mono ?_
  rintro e w2 ⟨g, rfl, hge, hb, hg2⟩
  have hg12 := hg1.step hg2
  have q0 : w2.cell? ⟨w.heap.size, 0, none⟩ = some (.int .i64 a) := hg12.cell_some (by simp)
  have q1 : w2.cell? ⟨w.heap.size, 1, none⟩ = some (.int .i64 b) := hg12.cell_some (by simp)
  have q2 : w2.cell? ⟨w.heap.size, 2, none⟩ = some (.int .i64 c) := hg12.cell_some (by simp)
  have q3 : w2.cell? ⟨w.heap.size, 3, none⟩ = some (.int .i64 d) := hg12.cell_some (by simp)
  have HG : Hid (Grows w w2) := ((Grows.rfl' w).alloc' _).step hg12
  clear hg1 hg2 hg12 hge
  go_wp2_with fail
  apply wp_region_lex_lit (by kernel_rfl) (by kernel_rfl)
  iterate 2
    apply lex_pin
    · intro wq hgq hdq Kq hKq
      have f0 := hgq.cell_some q0
      go_wp2
      exact hKq _ (Grows.rfl' _)
    · kernel_rfl
  apply lex_pin
  · intro wq hgq hdq Kq hKq
    go_wp2_with fail
    refine (low_g _ _).mono ?_
    rintro e wq' ⟨rfl, hgq'⟩
    go_wp2_with fail
    exact hKq _ hgq'
  · kernel_rfl
  iterate 2
    apply lex_pin
    · intro wq hgq hdq Kq hKq
      have f0 := hgq.cell_some q1
      go_wp2
      exact hKq _ (Grows.rfl' _)
    · kernel_rfl
  apply lex_pin
  · intro wq hgq hdq Kq hKq
    go_wp2_with fail
    refine (low_g _ _).mono ?_
    rintro e wq' ⟨rfl, hgq'⟩
    go_wp2_with fail
    exact hKq _ hgq'
  · kernel_rfl
  iterate 2
    apply lex_pin
    · intro wq hgq hdq Kq hKq
      have f0 := hgq.cell_some q2
      go_wp2
      exact hKq _ (Grows.rfl' _)
    · kernel_rfl
  apply lex_pin
  · intro wq hgq hdq Kq hKq
    go_wp2_with fail
    refine (low_g _ _).mono ?_
    rintro e wq' ⟨rfl, hgq'⟩
    go_wp2_with fail
    exact hKq _ hgq'
  · kernel_rfl
  apply lex_any (Three (a % 256) (b % 256) (c % 256)) Three.keep
  · intro wq hgq hdq Kq hKq
    go_wp2
    exact hKq _ _ ((Grows.rfl' _).alloc' _) ⟨wq.heap.size, rfl, heap_alloc_new _ _⟩
  intro v21
  simp only [Act.put, List.setIfInBounds_toArray, List.set_cons_succ, List.set_cons_zero]
  apply lex_pinv (.int .i64 3)
  · intro wq hgq hdq Kq hKq
    obtain ⟨g4, rfl, hb4⟩ := hdq 9 _ rfl (by kernel_rfl)
    go_wp2
    exact hKq _ (Grows.rfl' _)
  simp only [Act.put, List.setIfInBounds_toArray, List.set_cons_succ, List.set_cons_zero]
  iterate 1
    apply lex_pinv
    · intro wq hgq hdq Kq hKq
      go_wp2
      exact hKq _ (Grows.rfl' _)
    simp only [Act.put, List.setIfInBounds_toArray, List.set_cons_succ, List.set_cons_zero]
  refine lex_end ?_
  intro w3 hg3 hd3
  obtain ⟨g4, rfl, hb4⟩ := hd3 9 _ rfl
  clear hd3
  have HC : ∀ k : Nat, k < 3 → ∃ n : Int, w3.cell? ⟨g4, k, none⟩ = some (.int .i64 n) ∧ 0 ≤ n ∧ n < 256 ∧ w3.cell? ⟨g, k, none⟩ = some (.int .i64 ((65535 - n * 257) * (65535 - d % 256 * 257) / 65535)) := by
    intro k hk
    have hgl : g < w2.heap.size := by
      rcases Nat.lt_or_ge g w2.heap.size with h | h
      · exact h
      · rw [Array.getElem?_eq_none h] at hb; cases hb
    have hb' := (hg3.block g (by simpa using hgl)).trans hb
    have ma := mod256 a
    have mb := mod256 b
    have mc := mod256 c
    simp only [World.cell?, hb4, hb']
    rcases k with _ | _ | _ | k
    · exact ⟨a % 256, rfl, by omega, by omega, rfl⟩
    · exact ⟨b % 256, rfl, by omega, by omega, rfl⟩
    · exact ⟨c % 256, rfl, by omega, by omega, rfl⟩
    · omega
  have HH := Lib.hid HC
  have HG' : Hid (Grows w w3) := HG.out.drew'.step hg3
  have hq3 : w3.cell? ⟨w.heap.size, 3, none⟩ = some (.int .i64 d) := hg3.cell_some q3
  clear HC hb hb4 hg3 HG q0 q1 q2 q3
  have md := mod256 d
  go_wp2
  go_loopw [4, 5, 23] (fun _ _ i wr => ∃ k : Nat, k ≤ 3 ∧ i = .int .i64 k ∧ Grows w3 wr) (fun _ _ i _ => 3 - (intOf i).toNat)
  case atStart => exact ⟨0, by omega, rfl, Grows.rfl' _⟩
  case round =>
    obtain ⟨k, hk, rfl, hgr⟩ := hrel
    by_cases hlt : k < 3
    · obtain ⟨n, hn, h0, h1, hn'⟩ := HH.out k hlt
      have hn2 := hgr.cell_some hn
      have hn2' := hgr.cell_some hn'
      have hq3' := hgr.cell_some hq3
      clear hn hn' hq3
      obtain ⟨e0, e1⟩ := prod_in n d h0 h1
      have hb3 : decide ((k : Int) < 3) = true := by simp; omega
      go_wp2
      apply wp_region_lex_lit (by kernel_rfl) (by kernel_rfl)
      iterate 9
        apply lex_pin
        · intro wq hgq hdq Kq hKq
          have f0 := hgq.cell_some hn2'
          have f1 := hgq.cell_some hq3'
          go_wp2
          exact hKq _ (Grows.rfl' _)
        · kernel_rfl
      apply lex_pin
      · intro wq hgq hdq Kq hKq
        go_wp2_with fail
        refine (low_g _ _).mono ?_
        rintro e wq' ⟨rfl, hgq'⟩
        go_wp2_with fail
        exact hKq _ hgq'
      · kernel_rfl
      iterate 4
        apply lex_pin
        · intro wq hgq hdq Kq hKq
          go_wp2
          exact hKq _ (Grows.rfl' _)
        · kernel_rfl
      have hne : (((65535 - n * 257) * (65535 - d % 256 * 257) / 65535) != ((65535 - n * 257) * (65535 - d % 256 * 257) / 65535)) = false := by simp
      iterate 1
        apply lex_pin
        · intro wq hgq hdq Kq hKq
          go_wp2
          exact hKq _ (Grows.rfl' _)
        · kernel_rfl
      refine lex_end ?_
      intro w4 hg4 _
      go_wp2
      go_roundw
      case rel => exact ⟨k + 1, by omega, by go_num, hgr.drew'.step hg4⟩
      case measure => simp [intOf]; omega
    · go_wp2
      go_ret
      exact ⟨rfl, HG'.out.step hgr⟩

set_option linter.unusedVariables false
set_option maxRecDepth 100000 in
theorem lifted (os : Os) (started : os.Started) (H : Type) (enc : TypeId × Value → H) :
    ReturnsInHanded {} Try.checked os 7 .any (Rows.fnCMYKWideScaledSpec.pre6 enc Try.prog Try.f7 Rows.fnCMYKWideScaledRow.domain false) (Rows.fnCMYKWideScaledSpec.post enc Try.prog Try.f7 false true false false) := by
  refine returnsInHanded_of_change_sized (C := Try.checked) own started (by kernel_rfl) Try.func7
    (ChangeSpec.witness6 (enc := enc) (C := Try.checked) false ⟨#[], #[.agg #[.int .i64 0, .int .i64 0, .int .i64 0, .int .i64 0]], []⟩ 8 (by kernel_rfl) (by kernel_rfl) (by kernel_rfl) (by kernel_rfl)) ?_
  intro W base args ds gs before hval0 hW hcnd hsz0 _
  have hval : ∀ (j : Nat) t v, Try.f7.params[j]? = some t → args[j]? = some v → Value.okWide Try.prog W .any base t v := hval0
  have hsz : (DataW.weightsEach Try.prog (Try.f7.params.toList ++ Rows.fnCMYKWideScaledSpec.plain.varTypes Try.prog) (ds ++ gs)).all (· ≤ reachBytes) = true := hsz0
  clear hsz0
  have hW' := hW
  obtain ⟨p, q, hA0, hV, rfl, hfz, hnd⟩ := hW
  have hA : DataW.TrodAll enc Try.prog W 0 (fun _ => true) true Try.f7.params.toList args.toList ds p := hA0
  rw [Try.params7] at hA hval hsz
  obtain ⟨v0, vs0, d0, ds0, p0, q0, hargs, rfl, rfl, h0, r0⟩ := trodAll_cons hA
  obtain ⟨rfl, rfl, rfl⟩ := trodAll_nil r0
  obtain rfl : args = #[v0] := by cases args; simp_all
  obtain ⟨rfl, rfl⟩ := trodVars_none hV
  have k0 := h0
  have lt0 : ∀ x ∈ p0, x.block < W.heap.size := by obtain ⟨m, hm⟩ := k0; exact DataW.trod_lt m _ _ _ hm
  obtain ⟨s0a, s0b, s0c, s0d, rfl, ⟨b0a, b0b, b0c, b0d⟩⟩ := open_four Try.underlying28 (by kernel_rfl) cells28 (hval 0 28 v0 rfl rfl) h0
  refine (walk s0a s0b s0c s0d W b0a b0b b0c b0d).mono fun e W' ⟨he, bel⟩ => ?_
  subst he
  exact ⟨_, rfl, _, _, _, [], _, [], hW', trodAll_mk1 (shut_bool Try.underlying4 _), (trodAll_cons_mk (Below.trod laidOut (by kernel_rfl) (of_decide_eq_true (by kernel_rfl)) k0 bel lt0) trodAll_mk0), rfl, bel.frame _, fun h => by cases h⟩

theorem proved : Rows.FnCMYKWideScaledSaid :=
  OpenClaim.holds_of_wide 7 Try.f7 rfl rfl rfl rfl rfl rfl rfl ⟨rfl, rfl, rfl, rfl, rfl⟩ rfl rfl rfl rfl rfl (by kernel_rfl) Try.func7 (by kernel_rfl)
    (of_decide_eq_true (by kernel_rfl)) (by unfold Func.isWrapper; first | (rw [if_pos (by decide +kernel)]; kernel_rfl) | (rw [if_neg (by decide +kernel)]; exact ⟨rfl, rfl⟩))
    (fun os started H enc _ => lifted os started H enc)
#print axioms proved
end Go.Proofs.Ytoiikomjbckibaa.lawCMYKWideScaled

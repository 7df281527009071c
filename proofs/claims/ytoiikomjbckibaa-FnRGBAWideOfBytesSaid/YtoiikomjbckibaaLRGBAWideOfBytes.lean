/-
  FnRGBAWideOfBytes returns true for every color, and each argument reads afterwards as before. Conditions: none beyond the row's own.
-/
import Derived.Test.YtoiikomjbckibaaWide
import Derived.Test.YtoiikomjbckibaaLift
namespace Go.Proofs.Ytoiikomjbckibaa.lawRGBAWideOfBytes
open Go.ChangeShapes Go.WideShapes Go.ChangeAt Go.RowKit

/-- A slice of four ints in a block that is known. -/
def Four (a b c d : Int) (v : Value) (w : World) : Prop := ∃ g : Nat, v = .slice (some ⟨g, 0, none⟩) 4 4 ∧ w.heap[g]? = some (.cells #[.int .i64 a, .int .i64 b, .int .i64 c, .int .i64 d] 3 (0, 0))
theorem Four.keep {a b c d : Int} (v : Value) (w w' : World) (hg : Grows w w') (h : Four a b c d v w) : Four a b c d v w' := by
  obtain ⟨g, hv, hb⟩ := h
  have hlt : g < w.heap.size := by
    rcases Nat.lt_or_ge g w.heap.size with h | h
    · exact h
    · rw [Array.getElem?_eq_none h] at hb; cases hb
  exact ⟨g, hv, (hg.block g hlt).trans hb⟩

set_option maxHeartbeats 1000000 in
theorem walk (a b c d : Int) (w : World) (_ : -9223372036854775808 ≤ a ∧ a ≤ 9223372036854775807) (_ : -9223372036854775808 ≤ b ∧ b ≤ 9223372036854775807) (_ : -9223372036854775808 ≤ c ∧ c ≤ 9223372036854775807) (_ : -9223372036854775808 ≤ d ∧ d ≤ 9223372036854775807) :
    Calls Try.prog 9 #[.agg #[.int .i64 a, .int .i64 b, .int .i64 c, .int .i64 d]] w fun e w' => e = .returned (.bool true) ∧ Grows w w' := by
  go_enter Try.func9, Try.ntmps9
  go_wp2_with fail
  refine (asColor_any _ _ _ _ _).mono ?_
  rintro e w1 ⟨rfl, hg1⟩
  go_wp2_with fail
  refine (rgbaWide_any _ _ _ _ _).mono ?_
  rintro e w2 ⟨g, rfl, hge, hb, hg2⟩
  have hg12 := hg1.step hg2
  have q0 : w2.cell? ⟨w.heap.size, 0, none⟩ = some (.int .i64 a) := hg12.cell_some (by simp)
  have q1 : w2.cell? ⟨w.heap.size, 1, none⟩ = some (.int .i64 b) := hg12.cell_some (by simp)
  have q2 : w2.cell? ⟨w.heap.size, 2, none⟩ = some (.int .i64 c) := hg12.cell_some (by simp)
  have q3 : w2.cell? ⟨w.heap.size, 3, none⟩ = some (.int .i64 d) := hg12.cell_some (by simp)
  have HG : Hid (Grows w w2) := ((Grows.rfl' w).alloc' _).step hg12
  clear hg1 hg2 hg12 hge
  go_wp2_with fail
  apply wp_region_lex_lit (by kernel_rfl) (by kernel_rfl)
  iterate 2
    apply lex_pin
    · intro wq hgq hdq Kq hKq
      have f0 := hgq.cell_some q0
      go_wp2
      exact hKq _ (Grows.rfl' _)
    · kernel_rfl
  apply lex_pin
  · intro wq hgq hdq Kq hKq
    go_wp2_with fail
    refine (low_g _ _).mono ?_
    rintro e wq' ⟨rfl, hgq'⟩
    go_wp2_with fail
    exact hKq _ hgq'
  · kernel_rfl
  iterate 2
    apply lex_pin
    · intro wq hgq hdq Kq hKq
      have f0 := hgq.cell_some q1
      go_wp2
      exact hKq _ (Grows.rfl' _)
    · kernel_rfl
  apply lex_pin
  · intro wq hgq hdq Kq hKq
    go_wp2_with fail
    refine (low_g _ _).mono ?_
    rintro e wq' ⟨rfl, hgq'⟩
    go_wp2_with fail
    exact hKq _ hgq'
  · kernel_rfl
  iterate 2
    apply lex_pin
    · intro wq hgq hdq Kq hKq
      have f0 := hgq.cell_some q2
      go_wp2
      exact hKq _ (Grows.rfl' _)
    · kernel_rfl
  apply lex_pin
  · intro wq hgq hdq Kq hKq
    go_wp2_with fail
    refine (low_g _ _).mono ?_
    rintro e wq' ⟨rfl, hgq'⟩
    go_wp2_with fail
    exact hKq _ hgq'
  · kernel_rfl
  iterate 2
    apply lex_pin
    · intro wq hgq hdq Kq hKq
      have f0 := hgq.cell_some q3
      go_wp2
      exact hKq _ (Grows.rfl' _)
    · kernel_rfl
  apply lex_pin
  · intro wq hgq hdq Kq hKq
    go_wp2_with fail
    refine (low_g _ _).mono ?_
    rintro e wq' ⟨rfl, hgq'⟩
    go_wp2_with fail
    exact hKq _ hgq'
  · kernel_rfl
  apply lex_any (Four (a % 256) (b % 256) (c % 256) (d % 256)) Four.keep
  · intro wq hgq hdq Kq hKq
    go_wp2
    exact hKq _ _ ((Grows.rfl' _).alloc' _) ⟨wq.heap.size, rfl, heap_alloc_new _ _⟩
  intro v24
  simp only [Act.put, List.setIfInBounds_toArray, List.set_cons_succ, List.set_cons_zero]
  apply lex_pinv (.int .i64 4)
  · intro wq hgq hdq Kq hKq
    obtain ⟨g4, rfl, hb4⟩ := hdq 12 _ rfl (by kernel_rfl)
    go_wp2
    exact hKq _ (Grows.rfl' _)
  simp only [Act.put, List.setIfInBounds_toArray, List.set_cons_succ, List.set_cons_zero]
  iterate 1
    apply lex_pinv
    · intro wq hgq hdq Kq hKq
      go_wp2
      exact hKq _ (Grows.rfl' _)
    simp only [Act.put, List.setIfInBounds_toArray, List.set_cons_succ, List.set_cons_zero]
  refine lex_end ?_
  intro w3 hg3 hd3
  obtain ⟨g4, rfl, hb4⟩ := hd3 12 _ rfl
  clear hd3
  have HC : ∀ k : Nat, k < 4 → ∃ n : Int, w3.cell? ⟨g4, k, none⟩ = some (.int .i64 n) ∧ 0 ≤ n ∧ n < 256 ∧ w3.cell? ⟨g, k, none⟩ = some (.int .i64 (n * 257)) := by
    intro k hk
    have hgl : g < w2.heap.size := by
      rcases Nat.lt_or_ge g w2.heap.size with h | h
      · exact h
      · rw [Array.getElem?_eq_none h] at hb; cases hb
    have hb' := (hg3.block g (by simpa using hgl)).trans hb
    have ma := mod256 a
    have mb := mod256 b
    have mc := mod256 c
    have md := mod256 d
    simp only [World.cell?, hb4, hb']
    rcases k with _ | _ | _ | _ | k
    · exact ⟨a % 256, rfl, by omega, by omega, rfl⟩
    · exact ⟨b % 256, rfl, by omega, by omega, rfl⟩
    · exact ⟨c % 256, rfl, by omega, by omega, rfl⟩
    · exact ⟨d % 256, rfl, by omega, by omega, rfl⟩
    · omega
  have HH := Lib.hid HC
  have HG' : Hid (Grows w w3) := HG.out.drew'.step hg3
  clear HC hb hb4 hg3 HG q0 q1 q2 q3
  go_wp2
  go_loop [4, 5, 26] (fun _ _ i => ∃ k : Nat, k ≤ 4 ∧ i = .int .i64 k) (fun _ _ i => 4 - (intOf i).toNat)
  case atStart => exact ⟨0, by omega, rfl⟩
  case round =>
    obtain ⟨k, hk, rfl⟩ := hrel
    by_cases hlt : k < 4
    · obtain ⟨n, hn, h0, h1, hn'⟩ := HH.out k hlt
      have hne : (n * 257 != n * 257) = false := by simp
      go_wp2
      go_round
      case rel => exact ⟨k + 1, by omega, by go_num⟩
      case measure => simp [intOf]; omega
    · go_wp2
      go_ret
      exact ⟨rfl, HG'.out⟩

set_option linter.unusedVariables false
set_option maxRecDepth 100000 in
theorem lifted (os : Os) (started : os.Started) (H : Type) (enc : TypeId × Value → H) :
    ReturnsInHanded {} Try.checked os 9 .any (Rows.fnRGBAWideOfBytesSpec.pre6 enc Try.prog Try.f9 Rows.fnRGBAWideOfBytesRow.domain false) (Rows.fnRGBAWideOfBytesSpec.post enc Try.prog Try.f9 false true false false) := by
  refine returnsInHanded_of_change_sized (C := Try.checked) own started (by kernel_rfl) Try.func9
    (ChangeSpec.witness6 (enc := enc) (C := Try.checked) false ⟨#[], #[.agg #[.int .i64 0, .int .i64 0, .int .i64 0, .int .i64 0]], []⟩ 8 (by kernel_rfl) (by kernel_rfl) (by kernel_rfl) (by kernel_rfl)) ?_
  intro W base args ds gs before hval0 hW hcnd hsz0 _
  have hval : ∀ (j : Nat) t v, Try.f9.params[j]? = some t → args[j]? = some v → Value.okWide Try.prog W .any base t v := hval0
  have hsz : (DataW.weightsEach Try.prog (Try.f9.params.toList ++ Rows.fnRGBAWideOfBytesSpec.plain.varTypes Try.prog) (ds ++ gs)).all (· ≤ reachBytes) = true := hsz0
  clear hsz0
  have hW' := hW
  obtain ⟨p, q, hA0, hV, rfl, hfz, hnd⟩ := hW
  have hA : DataW.TrodAll enc Try.prog W 0 (fun _ => true) true Try.f9.params.toList args.toList ds p := hA0
  rw [Try.params9] at hA hval hsz
  obtain ⟨v0, vs0, d0, ds0, p0, q0, hargs, rfl, rfl, h0, r0⟩ := trodAll_cons hA
  obtain ⟨rfl, rfl, rfl⟩ := trodAll_nil r0
  obtain rfl : args = #[v0] := by cases args; simp_all
  obtain ⟨rfl, rfl⟩ := trodVars_none hV
  have k0 := h0
  have lt0 : ∀ x ∈ p0, x.block < W.heap.size := by obtain ⟨m, hm⟩ := k0; exact DataW.trod_lt m _ _ _ hm
  obtain ⟨s0a, s0b, s0c, s0d, rfl, ⟨b0a, b0b, b0c, b0d⟩⟩ := open_four Try.underlying28 (by kernel_rfl) cells28 (hval 0 28 v0 rfl rfl) h0
  refine (walk s0a s0b s0c s0d W b0a b0b b0c b0d).mono fun e W' ⟨he, bel⟩ => ?_
  subst he
  exact ⟨_, rfl, _, _, _, [], _, [], hW', trodAll_mk1 (shut_bool Try.underlying4 _), (trodAll_cons_mk (Below.trod laidOut (by kernel_rfl) (of_decide_eq_true (by kernel_rfl)) k0 bel lt0) trodAll_mk0), rfl, bel.frame _, fun h => by cases h⟩

theorem proved : Rows.FnRGBAWideOfBytesSaid :=
  OpenClaim.holds_of_wide 9 Try.f9 rfl rfl rfl rfl rfl rfl rfl ⟨rfl, rfl, rfl, rfl, rfl⟩ rfl rfl rfl rfl rfl (by kernel_rfl) Try.func9 (by kernel_rfl)
    (of_decide_eq_true (by kernel_rfl)) (by unfold Func.isWrapper; first | (rw [if_pos (by decide +kernel)]; kernel_rfl) | (rw [if_neg (by decide +kernel)]; exact ⟨rfl, rfl⟩))
    (fun os started H enc _ => lifted os started H enc)
#print axioms proved
end Go.Proofs.Ytoiikomjbckibaa.lawRGBAWideOfBytes

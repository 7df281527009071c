/-
  The statements' list of acts, opened to its numbers. No condition.
-/
import Derived.Test.YtbedollfokdldaaLift
import Derived.Test.YtbedollfokdldaaRows2
import Derived.Deep.Slices
namespace Go.Proofs.Ytbedollfokdldaa
open Go.ChangeShapes Go.WideShapes Go.ChangeAt Go.RowKit Go.Joins Go.Deep
set_option linter.unusedVariables false

theorem cellsAct : Try.prog.cellsOf 61 = 11 := by kernel_rfl
theorem cellsBoxA : Try.prog.cellsOf 23 = 4 := by kernel_rfl
theorem cellsPaintA : Try.prog.cellsOf 42 = 4 := by kernel_rfl
theorem cellsIntA : Try.prog.cellsOf 3 = 1 := by kernel_rfl
theorem bytesAct : Try.prog.bytesOf 61 = 88 := by kernel_rfl

section
variable {H : Type} {enc : TypeId × Value → H} {w : World} {base : Nat} {spare : Nat → Bool} {held : Bool} {fuel : Nat}
theorem int_cell {c : Value} {x : Option (DataW H × List MemPlace)} (h : DataW.trod enc Try.prog w base spare held fuel 3 [c] = x) (hx : x.isSome = true) : ∃ n : Int, c = .int .i64 n ∧ -9223372036854775808 ≤ n ∧ n ≤ 9223372036854775807 := by
  obtain ⟨y, rfl⟩ := Option.isSome_iff_exists.1 hx
  obtain ⟨n, hq, _, hw⟩ := DataW.trod_int Try.underlying3 h
  simp only [List.cons.injEq, and_true] at hq
  exact ⟨n, hq, bounds_i64 hw⟩
theorem list4 {cs : List Value} (h : cs.length = 4) : ∃ c0 c1 c2 c3, cs = [c0, c1, c2, c3] := by
  match cs, h with
  | [c0, c1, c2, c3], _ => exact ⟨c0, c1, c2, c3, rfl⟩
theorem list11 {cs : List Value} (h : cs.length = 11) : ∃ c0 c1 c2 c3 c4 c5 c6 c7 c8 c9 c10, cs = [c0, c1, c2, c3, c4, c5, c6, c7, c8, c9, c10] := by
  match cs, h with
  | [c0, c1, c2, c3, c4, c5, c6, c7, c8, c9, c10], _ => exact ⟨c0, c1, c2, c3, c4, c5, c6, c7, c8, c9, c10, rfl⟩
set_option maxRecDepth 20000 in
theorem box_cells {c0 c1 c2 c3 : Value} {x : Option (DataW H × List MemPlace)} (h : DataW.trod enc Try.prog w base spare held fuel 23 [c0, c1, c2, c3] = x) (hx : x.isSome = true) :
    ∃ q : Bx, c0 = .int .i64 q.1 ∧ c1 = .int .i64 q.2.1 ∧ c2 = .int .i64 q.2.2.1 ∧ c3 = .int .i64 q.2.2.2 ∧ (∀ n ∈ [q.1, q.2.1, q.2.2.1, q.2.2.2], -9223372036854775808 ≤ n ∧ n ≤ 9223372036854775807) := by
  obtain ⟨y, rfl⟩ := Option.isSome_iff_exists.1 hx
  obtain ⟨xs, n, _, _, _, hlen, hf⟩ := DataW.trod_struct Try.underlying23 h
  have k0 : DataW.trod enc Try.prog w base spare held n 3 ((([c0, c1, c2, c3] : List Value).drop 0).take (Try.prog.cellsOf 3)) = xs[0]? := hf 0 _ rfl
  have k1 : DataW.trod enc Try.prog w base spare held n 3 ((([c0, c1, c2, c3] : List Value).drop 1).take (Try.prog.cellsOf 3)) = xs[1]? := hf 1 _ rfl
  have k2 : DataW.trod enc Try.prog w base spare held n 3 ((([c0, c1, c2, c3] : List Value).drop 2).take (Try.prog.cellsOf 3)) = xs[2]? := hf 2 _ rfl
  have k3 : DataW.trod enc Try.prog w base spare held n 3 ((([c0, c1, c2, c3] : List Value).drop 3).take (Try.prog.cellsOf 3)) = xs[3]? := hf 3 _ rfl
  rw [cellsIntA] at k0 k1 k2 k3
  obtain ⟨n0, rfl, b0⟩ := int_cell k0 (by simp at hlen ⊢; omega)
  obtain ⟨n1, rfl, b1⟩ := int_cell k1 (by simp at hlen ⊢; omega)
  obtain ⟨n2, rfl, b2⟩ := int_cell k2 (by simp at hlen ⊢; omega)
  obtain ⟨n3, rfl, b3⟩ := int_cell k3 (by simp at hlen ⊢; omega)
  exact ⟨(n0, n1, n2, n3), rfl, rfl, rfl, rfl, by simp only [List.mem_cons, List.not_mem_nil, or_false]; rintro m (rfl | rfl | rfl | rfl) <;> assumption⟩
set_option maxRecDepth 20000 in
theorem paint_cells {c0 c1 c2 c3 : Value} {x : Option (DataW H × List MemPlace)} (h : DataW.trod enc Try.prog w base spare held fuel 42 [c0, c1, c2, c3] = x) (hx : x.isSome = true) :
    ∃ q : Bx, c0 = .int .i64 q.1 ∧ c1 = .int .i64 q.2.1 ∧ c2 = .int .i64 q.2.2.1 ∧ c3 = .int .i64 q.2.2.2 ∧ (∀ n ∈ [q.1, q.2.1, q.2.2.1, q.2.2.2], -9223372036854775808 ≤ n ∧ n ≤ 9223372036854775807) := by
  obtain ⟨y, rfl⟩ := Option.isSome_iff_exists.1 hx
  obtain ⟨xs, n, _, _, _, hlen, hf⟩ := DataW.trod_struct Try.underlying42 h
  have k0 : DataW.trod enc Try.prog w base spare held n 3 ((([c0, c1, c2, c3] : List Value).drop 0).take (Try.prog.cellsOf 3)) = xs[0]? := hf 0 _ rfl
  have k1 : DataW.trod enc Try.prog w base spare held n 3 ((([c0, c1, c2, c3] : List Value).drop 1).take (Try.prog.cellsOf 3)) = xs[1]? := hf 1 _ rfl
  have k2 : DataW.trod enc Try.prog w base spare held n 3 ((([c0, c1, c2, c3] : List Value).drop 2).take (Try.prog.cellsOf 3)) = xs[2]? := hf 2 _ rfl
  have k3 : DataW.trod enc Try.prog w base spare held n 3 ((([c0, c1, c2, c3] : List Value).drop 3).take (Try.prog.cellsOf 3)) = xs[3]? := hf 3 _ rfl
  rw [cellsIntA] at k0 k1 k2 k3
  obtain ⟨n0, rfl, b0⟩ := int_cell k0 (by simp at hlen ⊢; omega)
  obtain ⟨n1, rfl, b1⟩ := int_cell k1 (by simp at hlen ⊢; omega)
  obtain ⟨n2, rfl, b2⟩ := int_cell k2 (by simp at hlen ⊢; omega)
  obtain ⟨n3, rfl, b3⟩ := int_cell k3 (by simp at hlen ⊢; omega)
  exact ⟨(n0, n1, n2, n3), rfl, rfl, rfl, rfl, by simp only [List.mem_cons, List.not_mem_nil, or_false]; rintro m (rfl | rfl | rfl | rfl) <;> assumption⟩

set_option maxRecDepth 20000 in
theorem act_cells {cs : List Value} {x : DataW H × List MemPlace} (h : DataW.trod enc Try.prog w base spare held fuel 61 cs = some x) :
    ∃ s : Stp, cs = (nums s).map (Value.int .i64) ∧ (∀ n ∈ nums s, -9223372036854775808 ≤ n ∧ n ≤ 9223372036854775807) := by
  obtain ⟨xs, n, _, _, hl, hlen, hf⟩ := DataW.trod_struct Try.underlying61 h
  rw [cellsAct] at hl
  obtain ⟨c0, c1, c2, c3, c4, c5, c6, c7, c8, c9, c10, rfl⟩ := list11 hl
  have k0 : DataW.trod enc Try.prog w base spare held n 3 ((([c0, c1, c2, c3, c4, c5, c6, c7, c8, c9, c10] : List Value).drop 0).take (Try.prog.cellsOf 3)) = xs[0]? := hf 0 _ rfl
  have k1 : DataW.trod enc Try.prog w base spare held n 3 ((([c0, c1, c2, c3, c4, c5, c6, c7, c8, c9, c10] : List Value).drop 1).take (Try.prog.cellsOf 3)) = xs[1]? := hf 1 _ rfl
  have k2 : DataW.trod enc Try.prog w base spare held n 3 ((([c0, c1, c2, c3, c4, c5, c6, c7, c8, c9, c10] : List Value).drop 2).take (Try.prog.cellsOf 3)) = xs[2]? := hf 2 _ rfl
  have k3 : DataW.trod enc Try.prog w base spare held n 42 ((([c0, c1, c2, c3, c4, c5, c6, c7, c8, c9, c10] : List Value).drop 3).take (Try.prog.cellsOf 42)) = xs[3]? := hf 3 _ rfl
  have k4 : DataW.trod enc Try.prog w base spare held n 23 ((([c0, c1, c2, c3, c4, c5, c6, c7, c8, c9, c10] : List Value).drop 7).take (Try.prog.cellsOf 23)) = xs[4]? := hf 4 _ rfl
  rw [cellsIntA] at k0 k1 k2
  rw [cellsPaintA] at k3
  rw [cellsBoxA] at k4
  obtain ⟨t, rfl, bt⟩ := int_cell k0 (by simp at hlen ⊢; omega)
  obtain ⟨x', rfl, bx⟩ := int_cell k1 (by simp at hlen ⊢; omega)
  obtain ⟨y', rfl, by'⟩ := int_cell k2 (by simp at hlen ⊢; omega)
  obtain ⟨q, rfl, rfl, rfl, rfl, bq⟩ := paint_cells k3 (by simp at hlen ⊢; omega)
  obtain ⟨r, rfl, rfl, rfl, rfl, br⟩ := box_cells k4 (by simp at hlen ⊢; omega)
  refine ⟨(t, x', y', q, r), rfl, ?_⟩
  intro m hm
  simp only [nums, List.mem_cons, List.not_mem_nil, or_false] at hm
  rcases hm with rfl | rfl | rfl | rfl | rfl | rfl | rfl | rfl | rfl | rfl | rfl
  · exact bt
  · exact bx
  · exact by'
  · exact bq _ (by simp)
  · exact bq _ (by simp)
  · exact bq _ (by simp)
  · exact bq _ (by simp)
  · exact br _ (by simp)
  · exact br _ (by simp)
  · exact br _ (by simp)
  · exact br _ (by simp)
end

set_option maxRecDepth 20000 in
theorem open_acts {H : Type} {enc : TypeId × Value → H} {w : World} {r : Reach} {b0 : Nat} {v : Value} {d : DataW H} {p : List MemPlace}
    (hv : Value.okWide Try.prog w r b0 25 v) (h : DataW.Trod enc Try.prog w 0 (fun _ => true) true 25 v d p)
    (hs : ∀ el sp, d = .slice el sp → (el.length + sp.length) * Try.prog.bytesOf 61 ≤ reachBytes) : ∃ ss, RdS w v ss := by
  obtain ⟨a0, len, cap, rfl⟩ := okWide_slice Try.underlying25 hv
  obtain ⟨fuel, hf⟩ := h
  rcases open_slice Try.underlying25 hf with ⟨hcs, _⟩ | ⟨ad, l, c, m, n, D, Pl, hcs, _, hl, hm, hmm, hx, hel⟩
  · simp [Value.cells] at hcs
    obtain ⟨rfl, rfl, rfl⟩ := hcs
    exact ⟨[], none, 0, rfl, by simp, by omega, by simp, by simp, by simp⟩
  · simp [Value.cells] at hcs
    obtain ⟨rfl, rfl, rfl⟩ := hcs
    simp only [if_true] at hmm
    subst hmm
    simp only [Prod.mk.injEq] at hx
    have h1 := hs _ _ hx.1
    rw [bytesAct] at h1
    simp only [List.length_map, List.length_range, reachBytes] at h1
    unfold maxLen at hm
    rw [cellsAct] at hel
    have hact : ∀ i, i < m → ∃ s : Stp, (∀ k u, (nums s)[k]? = some u → w.cell? (ad.add (i * 11 + k)) = some (.int .i64 u)) ∧ ∀ u ∈ nums s, -9223372036854775808 ≤ u ∧ u ≤ 9223372036854775807 := by
      intro i hi
      obtain ⟨cs, hc1, hc2⟩ := hel i hi
      obtain ⟨s, rfl, hw⟩ := act_cells hc2
      obtain ⟨_, _, hcell⟩ := World.cells?_some hc1
      refine ⟨s, fun k u hk => ?_, hw⟩
      have hk11 : k < 11 := by have := (List.getElem?_eq_some_iff.1 hk).1; rwa [nums_length] at this
      have hk' := hcell k hk11
      rw [add_add, List.getElem?_map, hk] at hk'
      exact hk'
    obtain ⟨S, hS⟩ := choose_lt hact
    have hlen : ((List.range len).map S).length = len := by simp
    refine ⟨(List.range len).map S, some ad, m, by rw [hlen], by rw [hlen]; exact hl, by omega, by rw [hlen]; omega, ?_, ?_⟩
    · intro s hs n hn
      obtain ⟨i, hi, rfl⟩ := List.mem_map.1 hs
      exact (hS i (by have := List.mem_range.1 hi; omega)).2 n hn
    · intro j s hj
      have hjl : j < len := by have := (List.getElem?_eq_some_iff.1 hj).1; rwa [hlen] at this
      have hsj : S j = s := by simpa [hjl] using hj
      subst hsj
      obtain ⟨hc, _⟩ := hS j (by omega)
      obtain ⟨b, off, spot⟩ := ad
      have hspot : spot = none := by
        have := World.cell?_spot ((hS 0 (by omega)).1 0 _ rfl)
        simpa [Addr.add] using this
      subst hspot
      refine ⟨b, off, rfl, fun i n hi => ?_⟩
      have hc' := hc i n hi
      have e : (⟨b, off, none⟩ : Addr).add (j * 11 + i) = ⟨b, off + j * 11 + i, none⟩ := by unfold Addr.add; split <;> simp_all [Nat.add_assoc]
      rw [e] at hc'
      exact hc'
set_option maxRecDepth 20000 in
theorem open_acts2 {H : Type} {enc : TypeId × Value → H} {w : World} {r : Reach} {b0 : Nat} {v : Value} {d : DataW H} {p : List MemPlace}
    (hv : Value.okWide Try.prog w r b0 25 v) (h : DataW.Trod enc Try.prog w 0 (fun _ => true) true 25 v d p)
    (hs : ∀ el sp, d = .slice el sp → (el.length + sp.length) * Try.prog.bytesOf 61 ≤ reachBytes) : ∃ ss, RdS w v ss ∧ ss.length ≤ 1599999999999 := by
  obtain ⟨a0, len, cap, rfl⟩ := okWide_slice Try.underlying25 hv
  obtain ⟨fuel, hf⟩ := h
  rcases open_slice Try.underlying25 hf with ⟨hcs, _⟩ | ⟨ad, l, c, m, n, D, Pl, hcs, _, hl, hm, hmm, hx, hel⟩
  · simp [Value.cells] at hcs
    obtain ⟨rfl, rfl, rfl⟩ := hcs
    exact ⟨[], ⟨none, 0, rfl, by simp, by omega, by simp, by simp, by simp⟩, by simp⟩
  · simp [Value.cells] at hcs
    obtain ⟨rfl, rfl, rfl⟩ := hcs
    simp only [if_true] at hmm
    subst hmm
    simp only [Prod.mk.injEq] at hx
    have h1 := hs _ _ hx.1
    rw [bytesAct] at h1
    simp only [List.length_map, List.length_range, reachBytes] at h1
    unfold maxLen at hm
    rw [cellsAct] at hel
    have hact : ∀ i, i < m → ∃ s : Stp, (∀ k u, (nums s)[k]? = some u → w.cell? (ad.add (i * 11 + k)) = some (.int .i64 u)) ∧ ∀ u ∈ nums s, -9223372036854775808 ≤ u ∧ u ≤ 9223372036854775807 := by
      intro i hi
      obtain ⟨cs, hc1, hc2⟩ := hel i hi
      obtain ⟨s, rfl, hw⟩ := act_cells hc2
      obtain ⟨_, _, hcell⟩ := World.cells?_some hc1
      refine ⟨s, fun k u hk => ?_, hw⟩
      have hk11 : k < 11 := by have := (List.getElem?_eq_some_iff.1 hk).1; rwa [nums_length] at this
      have hk' := hcell k hk11
      rw [add_add, List.getElem?_map, hk] at hk'
      exact hk'
    obtain ⟨S, hS⟩ := choose_lt hact
    have hlen : ((List.range len).map S).length = len := by simp
    refine ⟨(List.range len).map S, ⟨some ad, m, by rw [hlen], by rw [hlen]; exact hl, by omega, by rw [hlen]; omega, ?_, ?_⟩, by rw [hlen]; omega⟩
    · intro s hs n hn
      obtain ⟨i, hi, rfl⟩ := List.mem_map.1 hs
      exact (hS i (by have := List.mem_range.1 hi; omega)).2 n hn
    · intro j s hj
      have hjl : j < len := by have := (List.getElem?_eq_some_iff.1 hj).1; rwa [hlen] at this
      have hsj : S j = s := by simpa [hjl] using hj
      subst hsj
      obtain ⟨hc, _⟩ := hS j (by omega)
      obtain ⟨b, off, spot⟩ := ad
      have hspot : spot = none := by
        have := World.cell?_spot ((hS 0 (by omega)).1 0 _ rfl)
        simpa [Addr.add] using this
      subst hspot
      refine ⟨b, off, rfl, fun i n hi => ?_⟩
      have hc' := hc i n hi
      have e : (⟨b, off, none⟩ : Addr).add (j * 11 + i) = ⟨b, off + j * 11 + i, none⟩ := by unfold Addr.add; split <;> simp_all [Nat.add_assoc]
      rw [e] at hc'
      exact hc'
end Go.Proofs.Ytbedollfokdldaa

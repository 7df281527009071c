/-
  The contract of the statements' asSteps: steps as the program has them, in new memory. Conditions: the argument reads as a list of steps.
-/
import Derived.Test.YtnbplionaojabaaRun
import Derived.Deep.DeepAppendWide
namespace Go.Proofs.Ytnbplionaojabaa
open Go.RowKit
set_option linter.unusedVariables false


/-- Steps that the call owns, made since the world W. -/
def OwnS (W w : World) (v : Value) (ss : List Stp) : Prop := w.ownsRow W.heap.size 48 11 v ss.length ((ss.flatMap nums).map (Value.int .i64)) ∧ Grows W w
theorem OwnS.nil {W w : World} (h : Grows W w) : OwnS W w (.slice none 0 0) [] := ⟨World.ownsRow_nil _ _ _ _, h⟩
theorem OwnS.later {W w w' : World} {v : Value} {ss : List Stp} (h : OwnS W w v ss) (hg : Grows w w') : OwnS W w' v ss := by
  refine ⟨h.1.kept (grown_of (row := none) hg) ?_, h.2.step hg⟩
  cases v.ownBlock with
  | none => exact .inl rfl
  | some k => exact .inr (by simp)
theorem OwnS.form {W w : World} {v : Value} {ss : List Stp} (h : OwnS W w v ss) : ∃ A c, v = .slice A ss.length c := by
  rcases h.1.2 with ⟨rfl, h0⟩ | ⟨g, cap, cur, hv, _⟩
  · exact ⟨none, 0, by rw [h0]⟩
  · exact ⟨_, _, hv⟩
theorem OwnS.rd {W w : World} {v : Value} {ss : List Stp} (h : OwnS W w v ss) (hl : ss.length ≤ 1600000000000) (hw : ∀ s ∈ ss, ∀ n ∈ nums s, -9223372036854775808 ≤ n ∧ n ≤ 9223372036854775807) : RdS w v ss := by
  rcases h.1.2 with ⟨rfl, h0⟩ | ⟨g, cap, cur, rfl, hg, hh, hnc, hcm, hcs, hcur⟩
  · have e : ss = [] := List.eq_nil_of_length_eq_zero h0
    subst e
    exact ⟨none, 0, rfl, by simp, by omega, by simp, by simp, by simp⟩
  · unfold maxLen at hcm
    refine ⟨_, cap, rfl, hnc, hcm, hl, hw, fun j s hj => ⟨g, 0, rfl, fun i n hi => ?_⟩⟩
    have hi11 : i < 11 := by have := (List.getElem?_eq_some_iff.1 hi).1; rwa [nums_length] at this
    have hc := h.1.cells (g := g) rfl (j * 11 + i) (.int .i64 n) (by rw [List.getElem?_map, flat_at hj hi11, hi]; rfl)
    have e : (⟨g, 0, none⟩ : Addr).add (j * 11 + i) = ⟨g, 0 + j * 11 + i, none⟩ := by unfold Addr.add; split <;> simp_all
    rw [e] at hc
    exact hc

theorem info_step : (Try.prog.info? 48).map (fun i => (i.zero, i.size, i.bytes)) = some (some (.agg #[.int .i64 0, .int .i64 0, .int .i64 0, .int .i64 0, .int .i64 0, .int .i64 0, .int .i64 0, .int .i64 0, .int .i64 0, .int .i64 0, .int .i64 0]), 11, 88) := by kernel_rfl

/-- append of steps onto steps of the call's own -/
theorem pushS_wp {ops : Array Oper} {rest : List Oper} {o : Oper} {a : Act} {Q : Exit → Act → World → Prop} {w : World} (hgd : o.guard = none) (s x : Operand)
    (ho : o.op = .call { callee := .builtin .append, args := #[s, x], argTypes := #[28, 28] }) (W : World) (v : Value) (ss ts : List Stp) (hs : a.eval s = v) (hown : OwnS W w v ss)
    (g off c : Nat) (hx : a.eval x = .slice (some ⟨g, off, none⟩) ts.length c) (hc : ∀ j m, (ts.flatMap nums)[j]? = some m → w.cell? ⟨g, off + j, none⟩ = some (.int .i64 m)) (hl : ss.length + ts.length ≤ 1600000000001)
    (h : ∀ v' w', OwnS W w' v' (ss ++ ts) → w.grownBy w' v.ownBlock → wpList Try.prog ops Q rest (a.put o.dst v') w') : wpList Try.prog ops Q (o :: rest) a w := by
  obtain ⟨i0, hi, hz0, hz1, hz2⟩ := info_parts info_step
  have hlen : ∀ l : List Stp, (l.flatMap nums).length = l.length * 11 := by
    intro l
    induction l with
    | nil => rfl
    | cons s t ih => rw [List.flatMap_cons, List.length_append, ih, nums_length, List.length_cons]; omega
  refine wpList_append_own_wide w hgd s x 28 ho W.heap.size 48 i0 (.agg #[.int .i64 0, .int .i64 0, .int .i64 0, .int .i64 0, .int .i64 0, .int .i64 0, .int .i64 0, .int .i64 0, .int .i64 0, .int .i64 0, .int .i64 0]) 11 88 Try.underlying28 hi hz0 hz1 hz2 rfl (by decide) v ss.length _ hs hown.1 ⟨g, off, none⟩ ts.length c ((ts.flatMap nums).map (Value.int .i64)) hx (by rw [List.length_map, hlen]) ?_ ?_ ?_ ?_ hown.2.size ?_
  · intro j u hj
    rw [List.getElem?_map] at hj
    obtain ⟨m, hm, rfl⟩ := Option.map_eq_some_iff.1 hj
    have e : (⟨g, off, none⟩ : Addr).add j = ⟨g, off + j, none⟩ := by unfold Addr.add; split <;> simp_all
    rw [e]
    exact hc j m hm
  · intro u hu
    obtain ⟨m, _, rfl⟩ := List.mem_map.1 hu
    rfl
  · unfold maxLen; omega
  · omega
  · intro v' w' ho' hg _
    refine h v' w' ⟨by simpa using ho', ?_⟩ hg
    exact hown.2.grown' hg fun k hk => (hown.1.lt k hk).1

theorem take_snocS {ss : List Stp} {k : Nat} {s : Stp} (h : ss[k]? = some s) : ss.take (k + 1) = ss.take k ++ [s] := by
  rw [List.take_add_one, h]; rfl

/-- One step in a block of its own. -/
def OneStp (s : Stp) (v : Value) (w : World) : Prop := ∃ g, v = .slice (some ⟨g, 0, none⟩) 1 1 ∧ StpAt w g s
theorem OneStp.keep {s : Stp} (v : Value) (w w' : World) (hg : Grows w w') (h : OneStp s v w) : OneStp s v w' := by
  obtain ⟨g, h1, h2⟩ := h
  exact ⟨g, h1, h2.grows hg⟩

set_option maxRecDepth 20000 in
set_option maxHeartbeats 4000000 in
theorem asSteps_any (v : Value) (ss : List Stp) (w : World) (hs : RdS w v ss) : Calls Try.prog 11 #[v] w fun e w' => ∃ v', e = .returned v' ∧ OwnS w w' v' ss := by
  obtain ⟨A1, c1, rfl, hs1, hs2, hs3, hs4, hs5⟩ := hs
  have HS5 := Lib.hid hs5
  clear hs4 hs5
  go_enter Try.func11, Try.ntmps11
  go_wp2_with fail
  go_loopw [3, 5, 8] (fun o _ iv wr => ∃ j : Nat, j ≤ ss.length ∧ iv = .int .i64 j ∧ OwnS w wr o (ss.take j)) (fun _ _ iv _ => ss.length - (intOf iv).toNat)
  case atStart => exact ⟨0, Nat.zero_le _, rfl, OwnS.nil (Grows.rfl' _)⟩
  case round =>
    obtain ⟨j, hj, rfl, hown⟩ := hrel
    have HO := Lib.hid hown
    clear hown
    by_cases hlt : j < ss.length
    · have he : ss[j]? = some ss[j] := List.getElem?_eq_getElem hlt
      have HTS := Lib.hid (take_snocS he)
      have hll : (ss.take j).length ≤ j := List.length_take_le _ _
      obtain ⟨bb, oo, rfl, hcell⟩ := HS5.out j _ he
      have hb3 : decide ((j : Int) < ss.length) = true := decide_eq_true (by omega)
      generalize ss[j] = s at *
      generalize ss.take j = L at *
      obtain ⟨t, x, y, ⟨r, g, bl, al⟩, ⟨x0, y0, x1, y1⟩⟩ := s
      have hgr := HO.out.2
      have cc0 := hgr.cell_some (hcell 0 _ rfl)
      have cc1 := hgr.cell_some (hcell 1 _ rfl)
      have cc2 := hgr.cell_some (hcell 2 _ rfl)
      have cc3 := hgr.cell_some (hcell 3 _ rfl)
      have cc4 := hgr.cell_some (hcell 4 _ rfl)
      have cc5 := hgr.cell_some (hcell 5 _ rfl)
      have cc6 := hgr.cell_some (hcell 6 _ rfl)
      have cc7 := hgr.cell_some (hcell 7 _ rfl)
      have cc8 := hgr.cell_some (hcell 8 _ rfl)
      have cc9 := hgr.cell_some (hcell 9 _ rfl)
      have cc10 := hgr.cell_some (hcell 10 _ rfl)
      simp only [Nat.add_zero] at cc0
      clear hcell he hgr
      go_upto_region 5 with fail
      clear cc0 cc1 cc2 cc3 cc4 cc5 cc6 cc7 cc8 cc9 cc10
      have HSB : Hid (StpAt (wr.alloc (.cells #[.int .i64 t, .int .i64 x, .int .i64 y, .int .i64 r, .int .i64 g, .int .i64 bl, .int .i64 al, .int .i64 x0, .int .i64 y0, .int .i64 x1, .int .i64 y1] 61)) wr.heap.size (t, x, y, (r, g, bl, al), (x0, y0, x1, y1))) := StpAt.top (t, x, y, (r, g, bl, al), (x0, y0, x1, y1)) rfl
      replace HO := Lib.hid (HO.out.later ((Grows.rfl' _).alloc' (.cells #[.int .i64 t, .int .i64 x, .int .i64 y, .int .i64 r, .int .i64 g, .int .i64 bl, .int .i64 al, .int .i64 x0, .int .i64 y0, .int .i64 x1, .int .i64 y1] 61)))
      generalize wr.alloc (.cells #[.int .i64 t, .int .i64 x, .int .i64 y, .int .i64 r, .int .i64 g, .int .i64 bl, .int .i64 al, .int .i64 x0, .int .i64 y0, .int .i64 x1, .int .i64 y1] 61) = w2 at *
      generalize wr.heap.size = sb at *
      apply wp_region_lex_lit 15 (by kernel_rfl) (by kernel_rfl)
      iterate 14
        apply lex_pin
        · intro wq hgq hdq Kq hKq
          obtain ⟨v0, v1, v2, v3, v4, v5, v6, v7, v8, v9, v10⟩ := (HSB.out.grows ((Grows.rfl' _).drew'.step hgq)).cells
          go_wp2_with ((first | (go_at_call 10; refine (asRect_any _ _ _ _ _).mono ?_) | (go_at_call 21; refine (asColor_any _ _ _ _ _).mono ?_)); rintro e wq' ⟨rfl, hgq'⟩)
          first | exact hKq _ (Grows.rfl' _) | exact hKq _ hgq'
        · kernel_rfl
      apply lex_any (OneStp (t, x, y, (r, g, bl, al), (x0, y0, x1, y1))) OneStp.keep
      · intro wq hgq hdq Kq hKq
        clear hdq
        go_wp2
        exact hKq _ _ ((Grows.rfl' _).alloc' _) ⟨wq.heap.size, rfl, StpAt.top (t, x, y, (r, g, bl, al), (x0, y0, x1, y1)) rfl⟩
      intro vst
      simp only [Act.put, List.setIfInBounds_toArray, List.set_cons_succ, List.set_cons_zero]
      refine lex_end ?_
      intro w3 hg3 hd3
      obtain ⟨g1, rfl, hst⟩ := hd3 14 _ rfl
      have HST := Lib.hid hst
      replace HO := Lib.hid (HO.out.later ((Grows.rfl' _).drew'.step hg3))
      clear hd3 hg3 hst
      go_wp2_with (at_builtin; refine pushS_wp rfl _ _ rfl w _ L [(t, x, y, (r, g, bl, al), (x0, y0, x1, y1))] rfl HO.out g1 0 1 rfl (fun i m hi => by rw [Nat.zero_add]; exact HST.out i m (by simpa using hi)) (by simp; omega) ?_; intro v' w4 hown' _)
      go_roundw
      case rel => exact ⟨j + 1, by omega, by go_num, by rw [HTS.out]; exact hown'⟩
      case measure => simp [intOf]; omega
    · have HX : Hid (ss.take j = ss) := List.take_of_length_le (by omega)
      go_wp2
      go_ret
      exact ⟨_, rfl, by have := HO.out; rw [HX.out] at this; exact this⟩
end Go.Proofs.Ytnbplionaojabaa

/-
  FnCMYKSplit returns true for every input, and each argument reads afterwards as before. Conditions: none beyond the row's own.
-/
import Derived.Test.YtbedollfokdldaaSplitM
import Derived.Test.YtbedollfokdldaaSplitP
import Derived.Test.YtbedollfokdldaaActs
import Derived.Test.YtbedollfokdldaaLift
import Derived.Deep.Cut
namespace Go.Proofs.Ytbedollfokdldaa.lawCMYKSplit
open Go.ChangeShapes Go.WideShapes Go.ChangeAt Go.RowKit
set_option linter.unusedVariables false

/-- An operation whose guard holds. -/
theorem unguard {P : Program} {ops : Array Oper} {Q : Exit → Act → World → Prop} {a : Act} {w : World} {rest : List Oper} {o : Oper} (hw : Region.wanted o (yielded ops a.tmps) = true) (h : wpList P ops Q ({ o with guard := none } :: rest) a w) : wpList P ops Q (o :: rest) a w := by
  unfold wpList at h ⊢
  rw [if_pos hw]
  have h2 : Region.wanted { o with guard := none } (yielded ops a.tmps) = true := rfl
  rw [if_pos h2] at h
  exact h
/-- The two parts of a list of steps. -/
theorem slice_low (A : Option Addr) (n c k : Nat) (h1 : k ≤ n) (h2 : n ≤ c) (h3 : c ≤ 9223372036854775807) (w : World) : (Instr.slice 28 (.slice A n c) none (some (.int .i64 k)) none).run Try.prog w = .ok (.slice A k c) w := by
  obtain ⟨i0, hi, hz0, hz1, hz2⟩ := info_parts info_step
  rw [run_slice_h (P := Try.prog) w 28 A n c (by kernel_rfl) .i64 (k : Int) (by omega) (by omega)]
  have hel : Try.prog.elem 28 = 48 := by kernel_rfl
  rw [hel]
  simp only [sizeOf, typeInfo, Sem.run_bind]
  cases A with
  | none => simp [hi, sliced]
  | some ad => simp [hi, sliced, Addr.add]
theorem slice_high (A : Option Addr) (n c k : Nat) (h1 : k ≤ n) (h2 : n ≤ c) (h3 : c ≤ 9223372036854775807) (w : World) : (Instr.slice 28 (.slice A n c) (some (.int .i64 k)) none none).run Try.prog w = .ok (.slice (if c = k then A else A.map (·.add (k * 11))) (n - k) (c - k)) w := by
  obtain ⟨i0, hi, hz0, hz1, hz2⟩ := info_parts info_step
  rw [run_slice_l (P := Try.prog) w 28 A n c (by kernel_rfl) .i64 (k : Int) (by omega) (by omega)]
  have hel : Try.prog.elem 28 = 48 := by kernel_rfl
  rw [hel]
  simp only [sizeOf, typeInfo, Sem.run_bind]
  simp [hi, sliced, hz1]

theorem one_rd {s : Stp} {v : Value} {w : World} (h : OneStp s v w) (hw : ∀ n ∈ nums s, -9223372036854775808 ≤ n ∧ n ≤ 9223372036854775807) : RdS w v [s] := by
  obtain ⟨g, rfl, hs⟩ := h
  refine ⟨_, 1, rfl, by simp, by omega, by simp, fun s' hs' => ?_, fun j s' hj => ⟨g, 0, rfl, fun i n hi => ?_⟩⟩
  · simp only [List.mem_singleton] at hs'
    subst hs'
    exact hw
  · match j, hj with
    | 0, hj =>
      simp only [List.getElem?_cons_zero, Option.some.injEq] at hj
      subst hj
      simpa using hs i n hi
    | j + 1, hj => simp at hj
theorem one_some {s : Stp} {v : Value} {w : World} (h : OneStp s v w) : ∀ c, v = .slice none 0 c → c = 0 := by
  obtain ⟨g, rfl, _⟩ := h
  intro c e
  simp at e

set_option maxRecDepth 20000 in
set_option maxHeartbeats 8000000 in
theorem walk (a b c d : Int) (vv : Value) (zs : List Int) (vs : Value) (ss : List Stp) (kk : Int) (w : World) (ha : I64 a) (hb : I64 b) (hc : I64 c) (hd : I64 d) (h : RdI w vv zs) (hs0 : RdS w vs ss ∧ ss.length ≤ 1599999999999) (hk : I64 kk) :
    Calls Try.prog 7 #[box4 a b c d, vv, vs, .int .i64 kk] w fun e w' => e = .returned (.bool true) ∧ Grows w w' := by
  obtain ⟨hs, hsl⟩ := hs0
  have HR := Lib.hid h
  have HS := Lib.hid hs
  obtain ⟨A, cc, rfl, _⟩ := h
  obtain ⟨A1, c1, rfl, hs1, hs2, hs3, hs4, _⟩ := hs
  have HS4 := Lib.hid hs4
  clear hs4
  go_enter Try.func7, Try.ntmps7
  by_cases hf : Fine a b c d
  · have HF := Lib.hid hf
    have htl := total_le (k := 4) (by omega) hf
    clear hf
    go_wp2_with fail
    refine (fine_yes _ _ _ _ _ HF.out).mono ?_
    rintro e w1 ⟨rfl, hg1⟩
    have q0 : w1.cell? ⟨w.heap.size, 0, none⟩ = some (.int .i64 a) := hg1.cell_some (by simp)
    have q1 : w1.cell? ⟨w.heap.size, 1, none⟩ = some (.int .i64 b) := hg1.cell_some (by simp)
    have q2 : w1.cell? ⟨w.heap.size, 2, none⟩ = some (.int .i64 c) := hg1.cell_some (by simp)
    have q3 : w1.cell? ⟨w.heap.size, 3, none⟩ = some (.int .i64 d) := hg1.cell_some (by simp)
    have HG : Hid (Grows w w1) := ((Grows.rfl' w).alloc' _).step hg1
    clear hg1
    by_cases hk0 : kk < 0
    · have hb1 : decide (kk < 0) = true := decide_eq_true hk0
      go_wp2_with fail
      go_ret
      exact ⟨rfl, HG.out⟩
    have hb1 : decide (kk < 0) = false := decide_eq_false hk0
    obtain ⟨k, rfl⟩ : ∃ k : Nat, kk = (k : Int) := ⟨kk.toNat, by omega⟩
    by_cases hkn : ss.length < k
    · have hb2 : decide ((k : Int) > ss.length) = true := decide_eq_true (by omega)
      go_wp2_with fail
      go_ret
      exact ⟨rfl, HG.out⟩
    have hb2 : decide ((k : Int) > ss.length) = false := decide_eq_false (by omega)
    have hkl : k ≤ ss.length := by omega
    go_wp2_with fail
    refine (asRect_any _ _ _ _ _).mono ?_
    rintro e w2 ⟨rfl, hg2⟩
    replace HG := Lib.hid (HG.out.step hg2)
    clear hg2 q0 q1 q2 q3
    go_wp2_with fail
    refine (asSteps_any _ ss w2 (HS.out.grows HG.out)).mono ?_
    rintro e w3 ⟨vst, rfl, hst⟩
    have HRS : Hid (RdS w3 vst ss) := hst.rd hs3 HS4.out
    have hvn : ∀ n c, vst = .slice none n c → c = 0 := by
      rcases hst.1.2 with ⟨rfl, _⟩ | ⟨g, cap, cur, rfl, _⟩
      · intro n c e; simp only [Value.slice.injEq] at e; exact e.2.2.symm
      · intro n c e; simp at e
    obtain ⟨A5, c5, rfl⟩ := hst.form
    have HVN : Hid (A5 = none → c5 = 0) := fun e => hvn ss.length c5 (by rw [e])
    have hcap : ss.length ≤ c5 ∧ c5 ≤ 9223372036854775807 := by
      obtain ⟨A', c', e, h2, h3, _⟩ := HRS.out
      simp only [Value.slice.injEq, true_and] at e
      omega
    replace HG := Lib.hid (HG.out.step hst.2)
    clear hst hvn
    go_upto_region 4 with fail
    have HB : Hid (BoxAt (w3.alloc (.cells #[.int .i64 a, .int .i64 b, .int .i64 c, .int .i64 d] 26)) w3.heap.size a b c d) := ⟨cell_top rfl rfl, cell_top rfl rfl, cell_top rfl rfl, cell_top rfl rfl⟩
    have hga : Grows w3 (w3.alloc (.cells #[.int .i64 a, .int .i64 b, .int .i64 c, .int .i64 d] 26)) := (Grows.rfl' _).alloc' _
    replace HG := Lib.hid (HG.out.step hga)
    replace HRS := Lib.hid (HRS.out.grows hga)
    clear hga
    generalize w3.alloc (.cells #[.int .i64 a, .int .i64 b, .int .i64 c, .int .i64 d] 26) = w4 at *
    generalize w3.heap.size = bx at *
    go_upto_region 5 with fail
    have HWB : Hid (StpAt (w4.alloc (.cells #[.int .i64 5, .int .i64 0, .int .i64 0, .int .i64 0, .int .i64 0, .int .i64 0, .int .i64 0, .int .i64 0, .int .i64 0, .int .i64 0, .int .i64 0] 48)) w4.heap.size ((5 : Int), (0 : Int), (0 : Int), (((0 : Int), (0 : Int), (0 : Int), (0 : Int)) : Bx), (((0 : Int), (0 : Int), (0 : Int), (0 : Int)) : Bx))) := StpAt.top ((5 : Int), (0 : Int), (0 : Int), (((0 : Int), (0 : Int), (0 : Int), (0 : Int)) : Bx), (((0 : Int), (0 : Int), (0 : Int), (0 : Int)) : Bx)) rfl
    have hga : Grows w4 (w4.alloc (.cells #[.int .i64 5, .int .i64 0, .int .i64 0, .int .i64 0, .int .i64 0, .int .i64 0, .int .i64 0, .int .i64 0, .int .i64 0, .int .i64 0, .int .i64 0] 48)) := (Grows.rfl' _).alloc' _
    replace HB := Lib.hid (HB.out.grows hga)
    replace HG := Lib.hid (HG.out.step hga)
    replace HRS := Lib.hid (HRS.out.grows hga)
    clear hga
    generalize w4.alloc (.cells #[.int .i64 5, .int .i64 0, .int .i64 0, .int .i64 0, .int .i64 0, .int .i64 0, .int .i64 0, .int .i64 0, .int .i64 0, .int .i64 0, .int .i64 0] 48) = w5 at *
    generalize w4.heap.size = wbx at *
    have hsl1 := slice_low A5 ss.length c5 k hkl hcap.1 hcap.2
    have hsl2 := slice_high A5 ss.length c5 k hkl hcap.1 hcap.2
    have HR1 : Hid (RdS w5 (.slice A5 k c5) (ss.take k)) := HRS.out.take hkl
    have HR2 : Hid (RdS w5 (.slice (if c5 = k then A5 else A5.map (·.add (k * 11))) (ss.length - k) (c5 - k)) (ss.drop k)) := by
      by_cases hck : c5 = k
      · rw [if_pos hck]
        have hd : ss.drop k = [] := List.drop_eq_nil_of_le (by omega)
        rw [hd]
        exact ⟨A5, c5 - k, by simp; omega, by simp, by omega, by simp, by simp, by simp⟩
      · rw [if_neg hck]
        cases A5 with
        | none =>
          have := HVN.out rfl
          omega
        | some ad =>
          obtain ⟨bb, oo, spot⟩ := ad
          by_cases hn0 : ss.length = 0
          · have hss : ss = [] := List.eq_nil_of_length_eq_zero hn0
            rw [hss]
            simp only [Option.map_some]
            exact ⟨some (Addr.add ⟨bb, oo, spot⟩ (k * 11)), c5 - k, by simp, by simp, by omega, by simp, by simp, by simp⟩
          · have hspot : spot = none := by
              obtain ⟨A', c', e, _, _, _, _, h5⟩ := HRS.out
              simp only [Value.slice.injEq, true_and] at e
              obtain ⟨b2, o2, e2, _⟩ := h5 0 _ (List.getElem?_eq_getElem (by omega))
              rw [← e.1] at e2
              simp only [Option.some.injEq, Addr.mk.injEq] at e2
              exact e2.2.2
            subst hspot
            have e3 : (⟨bb, oo, none⟩ : Addr).add (k * 11) = ⟨bb, oo + k * 11, none⟩ := by unfold Addr.add; split <;> simp_all
            simp only [Option.map_some, e3]
            exact HRS.out.drop hkl _ _ (fun _ => rfl) (by omega)
    have HVN6 : Hid (∀ c', (Value.slice (if c5 = k then A5 else A5.map (·.add (k * 11))) (ss.length - k) (c5 - k)) = .slice none 0 c' → c' = 0) := by
      intro c' e
      simp only [Value.slice.injEq] at e
      have hA : A5 = none := by
        have := e.1
        split at this
        · exact this
        · exact Option.map_eq_none_iff.1 this
      have := HVN.out hA
      omega
    have HVN1 : Hid (∀ c', (Value.slice A5 k c5) = .slice none 0 c' → c' = 0) := by
      intro c' e
      simp only [Value.slice.injEq] at e
      have := HVN.out e.1
      omega
    generalize (if c5 = k then A5 else A5.map (·.add (k * 11))) = A6 at *
    obtain ⟨L1, hL1⟩ : ∃ L1, L1 = ss.take k := ⟨_, rfl⟩
    obtain ⟨L2, hL2⟩ : ∃ L2, L2 = ss.drop k := ⟨_, rfl⟩
    have HLN : Hid (L1.length = k ∧ L2.length = ss.length - k ∧ ∀ s ∈ L1 ++ [((5 : Int), (0 : Int), (0 : Int), (((0 : Int), (0 : Int), (0 : Int), (0 : Int)) : Bx), (((0 : Int), (0 : Int), (0 : Int), (0 : Int)) : Bx))] ++ L2, ∀ n ∈ nums s, -9223372036854775808 ≤ n ∧ n ≤ 9223372036854775807) := by
      rw [hL1, hL2]
      refine ⟨by rw [List.length_take]; omega, List.length_drop, fun s hs => ?_⟩
      simp only [List.mem_append, List.mem_singleton] at hs
      rcases hs with (hs | rfl) | hs
      · exact HS4.out s (List.mem_of_mem_take hs)
      · intro n hn
        simp only [nums, List.mem_cons, List.not_mem_nil, or_false] at hn
        omega
      · exact HS4.out s (List.mem_of_mem_drop hs)
    rw [← hL1] at HR1
    rw [← hL2] at HR2
    clear hL1 hL2 HS4 HS
    apply wp_region_flo_lit 12 (by kernel_rfl) (by kernel_rfl)
    iterate 3
      apply flo_pin
      · intro wq hgq hdq Kq hKq
        go_wp2
        exact hKq _ (Grows.rfl' _)
      · kernel_rfl
      intro _
    apply flo_any (RowS w5.heap.size L1) RowS.keep
    · intro wq hgq hdq Kq hKq
      have hl1 := HLN.out.1
      refine appS_wp rfl _ _ rfl w5.heap.size hgq.size (.slice none 0 0) [] L1 rfl ⟨World.ownsRow_nil _ _ _ _, fun _ => rfl⟩ _ rfl (HR1.out.grows ((Grows.rfl' _).drew'.step hgq)) HVN1.out (by simp; omega) ?_
      intro v' w' hrow hg _
      exact hKq _ _ ((Grows.rfl' _).grown' hg fun k hk => by simp [Value.ownBlock] at hk) (by simpa using hrow)
    · kernel_rfl
    intro v3
    simp only [Act.put, List.setIfInBounds_toArray, List.set_cons_succ, List.set_cons_zero]
    iterate 1
      apply flo_pinv
      · intro wq hgq hdq Kq hKq
        obtain ⟨x0, x1, x2, x3, x4, x5, x6, x7, x8, x9, x10⟩ := (HWB.out.grows ((Grows.rfl' _).drew'.step hgq)).cells
        go_wp2
        exact hKq _ (Grows.rfl' _)
      intro _
      simp only [Act.put, List.setIfInBounds_toArray, List.set_cons_succ, List.set_cons_zero]
    apply flo_any (OneStp ((5 : Int), (0 : Int), (0 : Int), (((0 : Int), (0 : Int), (0 : Int), (0 : Int)) : Bx), (((0 : Int), (0 : Int), (0 : Int), (0 : Int)) : Bx))) OneStp.keep
    · intro wq hgq hdq Kq hKq
      clear hdq
      go_wp2
      exact hKq _ _ ((Grows.rfl' _).alloc' _) ⟨wq.heap.size, rfl, StpAt.top ((5 : Int), (0 : Int), (0 : Int), (((0 : Int), (0 : Int), (0 : Int), (0 : Int)) : Bx), (((0 : Int), (0 : Int), (0 : Int), (0 : Int)) : Bx)) rfl⟩
    · kernel_rfl
    intro v5
    simp only [Act.put, List.setIfInBounds_toArray, List.set_cons_succ, List.set_cons_zero]
    apply flo_push (RowS w5.heap.size (L1 ++ [((5 : Int), (0 : Int), (0 : Int), (((0 : Int), (0 : Int), (0 : Int), (0 : Int)) : Bx), (((0 : Int), (0 : Int), (0 : Int), (0 : Int)) : Bx))])) RowS.keep
    · intro wq hgq hdq Kq hKq
      have h3 := hdq 3 _ rfl (by kernel_rfl)
      have h5 := hdq 5 _ rfl (by kernel_rfl)
      have hl1 := HLN.out.1
      refine appS_wp rfl _ _ rfl w5.heap.size hgq.size v3 L1 [((5 : Int), (0 : Int), (0 : Int), (((0 : Int), (0 : Int), (0 : Int), (0 : Int)) : Bx), (((0 : Int), (0 : Int), (0 : Int), (0 : Int)) : Bx))] rfl h3 v5 rfl (one_rd h5 (by intro n hn; simp only [nums, List.mem_cons, List.not_mem_nil, or_false] at hn; omega)) (one_some h5) (by simp; omega) ?_
      intro v' w' hrow hg hor
      refine hKq _ _ (hgq.grown' hg fun kb hkb => (own_block h3.1 hkb).1) ?_ hrow
      repeat' first | exact Keeps.nil | refine Keeps.idle ?_ | refine Keeps.snoc ?_ ?_
      · intro h
        rcases hor with hg' | ⟨hne, hp⟩
        · exact RowS.keep _ _ _ hg' h
        · exact RowS.pres hp (Nat.le_refl _) h
      · intro h
        rcases hor with hg' | ⟨hne, hp⟩
        · exact OneStp.keep _ _ _ hg' h
        · exact hp.one (by have := List.length_pos_iff.2 hne; omega) h
    · kernel_rfl
    intro v6
    simp only [Act.put, List.setIfInBounds_toArray, List.set_cons_succ, List.set_cons_zero]
    iterate 3
      apply flo_pinv
      · intro wq hgq hdq Kq hKq
        go_wp2
        exact hKq _ (Grows.rfl' _)
      intro _
      simp only [Act.put, List.setIfInBounds_toArray, List.set_cons_succ, List.set_cons_zero]
    apply flo_push (RowS w5.heap.size (L1 ++ [((5 : Int), (0 : Int), (0 : Int), (((0 : Int), (0 : Int), (0 : Int), (0 : Int)) : Bx), (((0 : Int), (0 : Int), (0 : Int), (0 : Int)) : Bx))] ++ L2)) RowS.keep
    · intro wq hgq hdq Kq hKq
      have h6 := hdq 6 _ rfl (by kernel_rfl)
      obtain ⟨hl1, hl2, _⟩ := HLN.out
      refine appS_wp rfl _ _ rfl w5.heap.size hgq.size v6 (L1 ++ [((5 : Int), (0 : Int), (0 : Int), (((0 : Int), (0 : Int), (0 : Int), (0 : Int)) : Bx), (((0 : Int), (0 : Int), (0 : Int), (0 : Int)) : Bx))]) L2 rfl h6 _ rfl (HR2.out.grows ((Grows.rfl' _).drew'.step hgq)) HVN6.out (by simp; omega) ?_
      intro v' w' hrow hg hor
      refine hKq _ _ (hgq.grown' hg fun kb hkb => (own_block h6.1 hkb).1) ?_ hrow
      repeat' first | exact Keeps.nil | refine Keeps.idle ?_ | refine Keeps.snoc ?_ ?_
      · intro h
        rcases hor with hg' | ⟨hne, hp⟩
        · exact RowS.keep _ _ _ hg' h
        · exact RowS.pres hp (by simp; omega) h
      · intro h
        rcases hor with hg' | ⟨hne, hp⟩
        · exact OneStp.keep _ _ _ hg' h
        · exact hp.one (by simp; omega) h
      · intro h
        rcases hor with hg' | ⟨hne, hp⟩
        · exact RowS.keep _ _ _ hg' h
        · exact RowS.pres hp (Nat.le_refl _) h
    · kernel_rfl
    intro v10
    simp only [Act.put, List.setIfInBounds_toArray, List.set_cons_succ, List.set_cons_zero]
    apply flo_any (RowS w5.heap.size (L1 ++ [((5 : Int), (0 : Int), (0 : Int), (((0 : Int), (0 : Int), (0 : Int), (0 : Int)) : Bx), (((0 : Int), (0 : Int), (0 : Int), (0 : Int)) : Bx))] ++ L2)) RowS.keep
    · intro wq hgq hdq Kq hKq
      have HH := Lib.hid (hdq 10 _ rfl (by kernel_rfl))
      clear hdq
      go_wp2
      exact hKq _ _ (Grows.rfl' _) HH.out
    · kernel_rfl
    intro v11
    simp only [Act.put, List.setIfInBounds_toArray, List.set_cons_succ, List.set_cons_zero]
    refine flo_end ?_
    intro w6 hg6 hd6
    have hrow := hd6 11 _ rfl
    have hg56 : Grows w5 w6 := (Grows.rfl' _).drew'.step hg6
    have HRJ : Hid (RdS w6 v11 (L1 ++ [((5 : Int), (0 : Int), (0 : Int), (((0 : Int), (0 : Int), (0 : Int), (0 : Int)) : Bx), (((0 : Int), (0 : Int), (0 : Int), (0 : Int)) : Bx))] ++ L2)) := OwnS.rd (W := w5) ⟨hrow.1, hg56⟩ (by obtain ⟨hl1, hl2, _⟩ := HLN.out; simp; omega) HLN.out.2.2
    replace HB := Lib.hid (HB.out.grows hg56)
    replace HG := Lib.hid (HG.out.step hg56)
    replace HR1 := Lib.hid (HR1.out.grows hg56)
    replace HR2 := Lib.hid (HR2.out.grows hg56)
    clear hd6 hrow hg56 hg6 HWB HRS HVN HVN1 HVN6
    have hrun := split_run (k := 4) (by omega) HF.out (byteAt zs) (byteAt_in zs) L1 L2 (0, 0, 0, 0) (0, 0, 0, 0) 0 0
    simp only at hrun
    have hok1 := runF_okay (k := 4) (f := byteAt zs) ⟨HF.out.2.2.1.1, HF.out.2.2.1.2⟩ (byteAt_in zs) L1 L1.length (Nat.le_refl _)
    rw [List.take_length] at hok1
    have hok2 := runF_okay (k := 4) (f := byteAt (bytesOf (total a b c d 4) (runF a b c d 4 (byteAt zs) L1).2.1)) ⟨HF.out.2.2.1.1, HF.out.2.2.1.2⟩ (byteAt_in _) L2 L2.length (Nat.le_refl _)
    rw [List.take_length] at hok2
    have HCJ : Hid (∀ W, Grows w6 W → Calls Try.prog 14 #[box4 a b c d, .slice A zs.length cc, v11] W (RunOut a b c d (runF a b c d 4 (byteAt zs) (L1 ++ [((5 : Int), (0 : Int), (0 : Int), (((0 : Int), (0 : Int), (0 : Int), (0 : Int)) : Bx), (((0 : Int), (0 : Int), (0 : Int), (0 : Int)) : Bx))] ++ L2)) W)) := fun W hW => implRun a b c d _ zs _ _ W HF.out (HR.out.grows (HG.out.step hW)) (HRJ.out.grows hW)
    have HCA : Hid (∀ W, Grows w6 W → Calls Try.prog 14 #[box4 a b c d, .slice A zs.length cc, .slice A5 k c5] W (RunOut a b c d (runF a b c d 4 (byteAt zs) L1) W)) := fun W hW => implRun a b c d _ zs _ _ W HF.out (HR.out.grows (HG.out.step hW)) (HR1.out.grows hW)
    have HCB : Hid (∀ W pv, Grows w6 W → RdI W pv (bytesOf (total a b c d 4) (runF a b c d 4 (byteAt zs) L1).2.1) → Calls Try.prog 14 #[box4 a b c d, pv, .slice A6 (ss.length - k) (c5 - k)] W (RunOut a b c d (runF a b c d 4 (byteAt (bytesOf (total a b c d 4) (runF a b c d 4 (byteAt zs) L1).2.1)) L2) W)) := fun W pv hW hp => implRun a b c d _ _ _ _ W HF.out hp (HR2.out.grows hW)
    have HOK1 := Lib.hid hok1
    have HOK2 := Lib.hid hok2
    have HRUN := Lib.hid hrun
    clear hrun hok1 hok2 HRJ HR1 HR2
    generalize runF a b c d 4 (byteAt zs) (L1 ++ [((5 : Int), (0 : Int), (0 : Int), (((0 : Int), (0 : Int), (0 : Int), (0 : Int)) : Bx), (((0 : Int), (0 : Int), (0 : Int), (0 : Int)) : Bx))] ++ L2) = J at *
    generalize runF a b c d 4 (byteAt (bytesOf (total a b c d 4) (runF a b c d 4 (byteAt zs) L1).2.1)) L2 = S2 at *
    generalize runF a b c d 4 (byteAt zs) L1 = S1 at *
    obtain ⟨F1, hF1⟩ : ∃ F1, F1 = bytesOf (total a b c d 4) S1.2.1 := ⟨_, rfl⟩
    obtain ⟨F2, hF2⟩ : ∃ F2, F2 = bytesOf (total a b c d 4) S2.2.1 := ⟨_, rfl⟩
    obtain ⟨D1, hD1⟩ : ∃ D1, D1 = S1.2.2.1 := ⟨_, rfl⟩
    obtain ⟨D2, hD2⟩ : ∃ D2, D2 = S2.2.2.1 := ⟨_, rfl⟩
    have HFL1 : Hid (F1.length ≤ 4000000 ∧ ∀ m ∈ F1, -9223372036854775808 ≤ m ∧ m ≤ 9223372036854775807) := by
      rw [hF1]
      exact ⟨by rw [bytesOf_length]; omega, bytesOf_in fun i _ => by have := HOK1.out.2.1 i; omega⟩
    have HFL2 : Hid (F2.length ≤ 4000000 ∧ ∀ m ∈ F2, -9223372036854775808 ≤ m ∧ m ≤ 9223372036854775807) := by
      rw [hF2]
      exact ⟨by rw [bytesOf_length]; omega, bytesOf_in fun i _ => by have := HOK2.out.2.1 i; omega⟩
    have HDL : Hid (D1.length + D2.length ≤ 1600000000000 ∧ ∀ l ∈ D1 ++ D2, l.length = 4 ∧ ∀ m ∈ l, -9223372036854775808 ≤ m ∧ m ≤ 9223372036854775807) := by
      rw [hD1, hD2]
      have e1 := HOK1.out.2.2.1
      have e2 := HOK2.out.2.2.1
      obtain ⟨hl1, hl2, _⟩ := HLN.out
      refine ⟨by omega, fun l hl => ?_⟩
      rcases List.mem_append.1 hl with hl | hl
      · exact ⟨(HOK1.out.2.2.2.1 l hl).1, fun m hm => by have := (HOK1.out.2.2.2.1 l hl).2 m hm; omega⟩
      · exact ⟨(HOK2.out.2.2.2.1 l hl).1, fun m hm => by have := (HOK2.out.2.2.2.1 l hl).2 m hm; omega⟩
    have HTJ : Hid (∀ W, Grows w6 W → Calls Try.prog 14 #[box4 a b c d, .slice A zs.length cc, v11] W fun e w' => ∃ v, e = .returned v ∧ Grows W w' ∧ TupRun a b c d (sd a c 4) (D1 ++ D2) none F2 W v w') := by
      intro W hW
      refine (HCJ.out W hW).mono ?_
      rintro e w' ⟨vc, vo, vp, offs, rfl, hC, hO, hP, _⟩
      rw [HRUN.out.1, ← hD1, ← hD2] at hC
      rw [HRUN.out.2, ← hF2] at hP
      exact ⟨_, rfl, hC.2, vc, vo, vp, rfl, hC, hP, fun l hl => by cases hl⟩
    have HTA : Hid (∀ W, Grows w6 W → Calls Try.prog 14 #[box4 a b c d, .slice A zs.length cc, .slice A5 k c5] W fun e w' => ∃ v, e = .returned v ∧ Grows W w' ∧ TupRun a b c d (sd a c 4) D1 none F1 W v w') := by
      intro W hW
      refine (HCA.out W hW).mono ?_
      rintro e w' ⟨vc, vo, vp, offs, rfl, hC, hO, hP, _⟩
      rw [← hD1] at hC
      rw [← hF1] at hP
      exact ⟨_, rfl, hC.2, vc, vo, vp, rfl, hC, hP, fun l hl => by cases hl⟩
    have HTB : Hid (∀ W pv, Grows w6 W → RdI W pv F1 → Calls Try.prog 14 #[box4 a b c d, pv, .slice A6 (ss.length - k) (c5 - k)] W fun e w' => ∃ v, e = .returned v ∧ Grows W w' ∧ TupRun a b c d (sd a c 4) D2 none F2 W v w') := by
      intro W pv hW hp
      rw [hF1] at hp
      refine (HCB.out W pv hW hp).mono ?_
      rintro e w' ⟨vc, vo, vp, offs, rfl, hC, hO, hP, _⟩
      rw [← hD2] at hC
      rw [← hF2] at hP
      exact ⟨_, rfl, hC.2, vc, vo, vp, rfl, hC, hP, fun l hl => by cases hl⟩
    clear hF1 hF2 hD1 hD2 HCJ HCA HCB HOK1 HOK2 HRUN HLN
    go_upto_region 6 with fail
    obtain ⟨p0, p1, p2, p3⟩ := HB.out
    go_wp2_with fail
    refine (HTJ.out w6 (Grows.rfl' _)).mono ?_
    rintro e w7 ⟨vt, rfl, hg7, vcj, voj, vpj, rfl, hCj, hPj, _⟩
    clear p0 p1 p2 p3
    obtain ⟨Cj, kj, rfl⟩ := hPj.form
    obtain ⟨Cc, kc, rfl⟩ := hCj.form
    have HOJ := Lib.hid hCj
    have HPJ : Hid (RdI w7 (.slice Cj F2.length kj) F2) := hPj.rd (by have := HFL2.out.1; omega) HFL2.out.2
    have HG7 := Lib.hid hg7
    clear hCj hPj hg7 HTJ
    go_upto_region 7 with fail
    have hga : Grows w7 (w7.alloc (.cells #[.int .i64 a, .int .i64 b, .int .i64 c, .int .i64 d, .int .i64 (sd a c 4), .slice Cj F2.length kj] 34)) := (Grows.rfl' _).alloc' _
    have HXJ : Hid (PicAt (w7.alloc (.cells #[.int .i64 a, .int .i64 b, .int .i64 c, .int .i64 d, .int .i64 (sd a c 4), .slice Cj F2.length kj] 34)) w7.heap.size a b c d (sd a c 4) (.slice Cj F2.length kj)) := heap_alloc_new _ _
    have hg6p := HG7.out.step hga
    replace HOJ := Lib.hid (HOJ.out.later hga)
    replace HPJ := Lib.hid (HPJ.out.grows hga)
    replace HB := Lib.hid (HB.out.grows hg6p)
    replace HG := Lib.hid (HG.out.step hg6p)
    replace HTA := Lib.hid (fun W hW => HTA.out W (hg6p.step hW))
    replace HTB := Lib.hid (fun W pv hW hp => HTB.out W pv (hg6p.step hW) hp)
    clear hga hg6p HG7
    generalize w7.alloc (.cells #[.int .i64 a, .int .i64 b, .int .i64 c, .int .i64 d, .int .i64 (sd a c 4), .slice Cj F2.length kj] 34) = wa at *
    generalize w7.heap.size = pbj at *
    apply wp_region_lex_lit 13 (by kernel_rfl) (by kernel_rfl)
    iterate 5
      apply lex_pin
      · intro wq hgq hdq Kq hKq
        obtain ⟨p0, p1, p2, p3⟩ := HB.out.grows ((Grows.rfl' _).drew'.step hgq)
        go_wp2
        exact hKq _ (Grows.rfl' _)
      · kernel_rfl
    apply lex_any (TupRun a b c d (sd a c 4) (D1) none (F1) wa) TupRun.keep
    · intro wq hgq hdq Kq hKq
      clear hdq
      have HCL := Lib.hid (HTA.out _ ((Grows.rfl' _).drew'.step hgq))
      go_wp2_with fail
      refine HCL.out.mono ?_
      rintro e wq' ⟨v', rfl, hgq', hp⟩
      have HTP := Lib.hid (And.intro hgq' (hp.base ((Grows.rfl' wa).drew'.step hgq)))
      clear hgq' hp HCL
      go_wp2_with fail
      exact hKq _ _ HTP.out.1 HTP.out.2
    intro vt
    simp only [Act.put, List.setIfInBounds_toArray, List.set_cons_succ, List.set_cons_zero]
    apply lex_any (TupRun a b c d (sd a c 4) (D1) (none) (F1) wa) TupRun.keep
    · intro wq hgq hdq Kq hKq
      have hst := Lib.hid (hdq 5 _ rfl (by kernel_rfl))
      go_wp2
      exact hKq _ _ (Grows.rfl' _) hst.out
    intro vm
    simp only [Act.put, List.setIfInBounds_toArray, List.set_cons_succ, List.set_cons_zero]
    apply lex_any (fun v w => OwnC wa w v (D1)) (fun v w w' hg h => h.later hg)
    · intro wq hgq hdq Kq hKq
      obtain ⟨vc, vo, vp, rfl, hC, hP, hO⟩ := hdq 6 _ rfl (by kernel_rfl)
      have HH := Lib.hid hC
      clear hC hP hO
      go_wp2
      exact hKq _ _ (Grows.rfl' _) HH.out
    intro vc0
    simp only [Act.put, List.setIfInBounds_toArray, List.set_cons_succ, List.set_cons_zero]
    apply lex_any (fun v w => OffIs (none) wa w v) (fun v w w' hg h => h.later hg)
    · intro wq hgq hdq Kq hKq
      obtain ⟨vc, vo, vp, rfl, hC, hP, hO⟩ := hdq 6 _ rfl (by kernel_rfl)
      have HH := Lib.hid hO
      clear hC hP hO
      go_wp2
      exact hKq _ _ (Grows.rfl' _) HH.out
    intro vo0
    simp only [Act.put, List.setIfInBounds_toArray, List.set_cons_succ, List.set_cons_zero]
    apply lex_any (OwnPic a b c d (sd a c 4) (F1) wa) OwnPic.keep
    · intro wq hgq hdq Kq hKq
      obtain ⟨vc, vo, vp, rfl, hC, hP, hO⟩ := hdq 6 _ rfl (by kernel_rfl)
      have HH := Lib.hid hP
      clear hC hP hO
      go_wp2
      exact hKq _ _ (Grows.rfl' _) ⟨vp, rfl, HH.out⟩
    intro vp0
    simp only [Act.put, List.setIfInBounds_toArray, List.set_cons_succ, List.set_cons_zero]
    apply lex_any (ZeroBox wa) ZeroBox.keep
    · intro wq hgq hdq Kq hKq
      have hsz4 : wa.heap.size ≤ wq.heap.size := hgq.size
      go_wp2
      exact hKq _ _ ((Grows.rfl' _).alloc' _) ⟨wq.heap.size, rfl, hsz4, heap_alloc_new _ _⟩
    intro vx0
    simp only [Act.put, List.setIfInBounds_toArray, List.set_cons_succ, List.set_cons_zero]
    apply lex_any (fun v w => OwnC wa w v (D1)) (fun v w w' hg h => h.later hg)
    · intro wq hgq hdq Kq hKq
      have HH := Lib.hid (hdq 7 _ rfl (by kernel_rfl))
      clear hdq
      go_wp2
      exact hKq _ _ (Grows.rfl' _) HH.out
    intro vc1
    simp only [Act.put, List.setIfInBounds_toArray, List.set_cons_succ, List.set_cons_zero]
    apply lex_any (fun v w => OffIs (none) wa w v) (fun v w w' hg h => h.later hg)
    · intro wq hgq hdq Kq hKq
      have HH := Lib.hid (hdq 8 _ rfl (by kernel_rfl))
      clear hdq
      go_wp2
      exact hKq _ _ (Grows.rfl' _) HH.out
    intro vo1
    simp only [Act.put, List.setIfInBounds_toArray, List.set_cons_succ, List.set_cons_zero]
    refine lex_end ?_
    intro w7 hg7 hd7
    obtain ⟨vp, rfl, ho⟩ := hd7 9 _ rfl
    obtain ⟨pbx2, rfl, hpb2, hbox⟩ := hd7 10 _ rfl
    have hoc := hd7 11 _ rfl
    have hof := hd7 12 _ rfl
    clear hd7
    obtain ⟨C2, k2, rfl⟩ := ho.form
    obtain ⟨C3, k3, rfl⟩ := hoc.form
    obtain ⟨e0, e1, e2, e3, e4, e5⟩ := block_cells hbox
    have z5 := block_frozen hbox
    have HX2 : Hid (PicAt (stored w7 pbx2 (.int .i64 a) (.int .i64 b) (.int .i64 c) (.int .i64 d) (.int .i64 (sd a c 4)) (.slice C2 (F1).length k2)) pbx2 a b c d (sd a c 4) (.slice C2 (F1).length k2)) := stored_block hbox (.int .i64 a) (.int .i64 b) (.int .i64 c) (.int .i64 d) (.int .i64 (sd a c 4)) (.slice C2 (F1).length k2)
    have HO8 := Lib.hid (stored_own ho hbox hpb2 (.int .i64 a) (.int .i64 b) (.int .i64 c) (.int .i64 d) (.int .i64 (sd a c 4)) (.slice C2 (F1).length k2))
    have HC8 := Lib.hid (stored_ownC hoc hbox hpb2 (.int .i64 a) (.int .i64 b) (.int .i64 c) (.int .i64 d) (.int .i64 (sd a c 4)) (.slice C2 (F1).length k2))
    have HF8 := Lib.hid (stored_off hof hbox hpb2 (.int .i64 a) (.int .i64 b) (.int .i64 c) (.int .i64 d) (.int .i64 (sd a c 4)) (.slice C2 (F1).length k2))
    have HF8 := Lib.hid (stored_off hof hbox hpb2 (.int .i64 a) (.int .i64 b) (.int .i64 c) (.int .i64 d) (.int .i64 (sd a c 4)) (.slice C2 (F1).length k2))
    have HF8 := Lib.hid (stored_off hof hbox hpb2 (.int .i64 a) (.int .i64 b) (.int .i64 c) (.int .i64 d) (.int .i64 (sd a c 4)) (.slice C2 (F1).length k2))
    have HF8 := Lib.hid (stored_off hof hbox hpb2 (.int .i64 a) (.int .i64 b) (.int .i64 c) (.int .i64 d) (.int .i64 (sd a c 4)) (.slice C2 (F1).length k2))
    have HF8 := Lib.hid (stored_off hof hbox hpb2 (.int .i64 a) (.int .i64 b) (.int .i64 c) (.int .i64 d) (.int .i64 (sd a c 4)) (.slice C2 (F1).length k2))
    have HF8 := Lib.hid (stored_off hof hbox hpb2 (.int .i64 a) (.int .i64 b) (.int .i64 c) (.int .i64 d) (.int .i64 (sd a c 4)) (.slice C2 (F1).length k2))
    have HF8 := Lib.hid (stored_off hof hbox hpb2 (.int .i64 a) (.int .i64 b) (.int .i64 c) (.int .i64 d) (.int .i64 (sd a c 4)) (.slice C2 (F1).length k2))
    have HF8 := Lib.hid (stored_off hof hbox hpb2 (.int .i64 a) (.int .i64 b) (.int .i64 c) (.int .i64 d) (.int .i64 (sd a c 4)) (.slice C2 (F1).length k2))
    have HG8 : Hid (Grows wa (stored w7 pbx2 (.int .i64 a) (.int .i64 b) (.int .i64 c) (.int .i64 d) (.int .i64 (sd a c 4)) (.slice C2 (F1).length k2))) := stored_grows ((Grows.rfl' wa).drew'.step hg7) hpb2 _ _ _ _ _ _
    have HCH : Hid (((((((w7.setCell ⟨pbx2, 0, none⟩ (.int .i64 a)).setCell ⟨pbx2, 1, none⟩ (.int .i64 b)).setCell ⟨pbx2, 2, none⟩ (.int .i64 c)).setCell ⟨pbx2, 3, none⟩ (.int .i64 d)).setCell ⟨pbx2, 4, none⟩ (.int .i64 (sd a c 4))).setCell ⟨pbx2, 5, none⟩ (.slice C2 (F1).length k2)) = stored w7 pbx2 (.int .i64 a) (.int .i64 b) (.int .i64 c) (.int .i64 d) (.int .i64 (sd a c 4)) (.slice C2 (F1).length k2)) := rfl
    clear ho hoc hof hbox hg7
    go_upto_region 8 with fail
    rw [HCH.out]
    clear HCH z5 e0 e1 e2 e3 e4 e5
    generalize stored w7 pbx2 (.int .i64 a) (.int .i64 b) (.int .i64 c) (.int .i64 d) (.int .i64 (sd a c 4)) (.slice C2 (F1).length k2) = w8 at *
    have HXM := Lib.hid HX2.out
    have HPM : Hid (RdI w8 (.slice C2 F1.length k2) F1) := HO8.out.rd (by have := HFL1.out.1; omega) HFL1.out.2
    have HCM := Lib.hid HC8.out
    replace HOJ := Lib.hid (HOJ.out.later HG8.out)
    replace HPJ := Lib.hid (HPJ.out.grows HG8.out)
    replace HXJ := Lib.hid (HXJ.out.grows HG8.out)
    replace HB := Lib.hid (HB.out.grows HG8.out)
    replace HG := Lib.hid (HG.out.step HG8.out)
    replace HTB := Lib.hid (fun W pv hW hp => HTB.out W pv (HG8.out.step hW) hp)
    clear HX2 HO8 HC8 HF8 HG8 HTA
    generalize w8 = wb at *
    generalize hcc : C2 = Cm at *
    generalize hkk2 : k2 = km at *
    generalize hc3 : C3 = Cn at *
    generalize hk3 : k3 = kn at *
    generalize hpb2e : pbx2 = pbm at *
    clear hcc hkk2 hc3 hk3 hpb2e hpb2
    apply wp_region_lex_lit 14 (by kernel_rfl) (by kernel_rfl)
    iterate 6
      apply lex_pin
      · intro wq hgq hdq Kq hKq
        obtain ⟨p0, p1, p2, p3⟩ := HB.out.grows ((Grows.rfl' _).drew'.step hgq)
        obtain ⟨t0, t1, t2, t3, t4, t5⟩ := (HXM.out.grows ((Grows.rfl' _).drew'.step hgq)).cells
        go_wp2
        exact hKq _ (Grows.rfl' _)
      · kernel_rfl
    apply lex_any (TupRun a b c d (sd a c 4) (D2) none (F2) wb) TupRun.keep
    · intro wq hgq hdq Kq hKq
      clear hdq
      have HCL := Lib.hid (HTB.out _ _ ((Grows.rfl' _).drew'.step hgq) (HPM.out.grows ((Grows.rfl' _).drew'.step hgq)))
      go_wp2_with fail
      refine HCL.out.mono ?_
      rintro e wq' ⟨v', rfl, hgq', hp⟩
      have HTP := Lib.hid (And.intro hgq' (hp.base ((Grows.rfl' wb).drew'.step hgq)))
      clear hgq' hp HCL
      go_wp2_with fail
      exact hKq _ _ HTP.out.1 HTP.out.2
    intro vt
    simp only [Act.put, List.setIfInBounds_toArray, List.set_cons_succ, List.set_cons_zero]
    apply lex_any (TupRun a b c d (sd a c 4) (D2) (none) (F2) wb) TupRun.keep
    · intro wq hgq hdq Kq hKq
      have hst := Lib.hid (hdq 6 _ rfl (by kernel_rfl))
      go_wp2
      exact hKq _ _ (Grows.rfl' _) hst.out
    intro vm
    simp only [Act.put, List.setIfInBounds_toArray, List.set_cons_succ, List.set_cons_zero]
    apply lex_any (fun v w => OwnC wb w v (D2)) (fun v w w' hg h => h.later hg)
    · intro wq hgq hdq Kq hKq
      obtain ⟨vc, vo, vp, rfl, hC, hP, hO⟩ := hdq 7 _ rfl (by kernel_rfl)
      have HH := Lib.hid hC
      clear hC hP hO
      go_wp2
      exact hKq _ _ (Grows.rfl' _) HH.out
    intro vc0
    simp only [Act.put, List.setIfInBounds_toArray, List.set_cons_succ, List.set_cons_zero]
    apply lex_any (fun v w => OffIs (none) wb w v) (fun v w w' hg h => h.later hg)
    · intro wq hgq hdq Kq hKq
      obtain ⟨vc, vo, vp, rfl, hC, hP, hO⟩ := hdq 7 _ rfl (by kernel_rfl)
      have HH := Lib.hid hO
      clear hC hP hO
      go_wp2
      exact hKq _ _ (Grows.rfl' _) HH.out
    intro vo0
    simp only [Act.put, List.setIfInBounds_toArray, List.set_cons_succ, List.set_cons_zero]
    apply lex_any (OwnPic a b c d (sd a c 4) (F2) wb) OwnPic.keep
    · intro wq hgq hdq Kq hKq
      obtain ⟨vc, vo, vp, rfl, hC, hP, hO⟩ := hdq 7 _ rfl (by kernel_rfl)
      have HH := Lib.hid hP
      clear hC hP hO
      go_wp2
      exact hKq _ _ (Grows.rfl' _) ⟨vp, rfl, HH.out⟩
    intro vp0
    simp only [Act.put, List.setIfInBounds_toArray, List.set_cons_succ, List.set_cons_zero]
    apply lex_any (ZeroBox wb) ZeroBox.keep
    · intro wq hgq hdq Kq hKq
      have hsz4 : wb.heap.size ≤ wq.heap.size := hgq.size
      go_wp2
      exact hKq _ _ ((Grows.rfl' _).alloc' _) ⟨wq.heap.size, rfl, hsz4, heap_alloc_new _ _⟩
    intro vx0
    simp only [Act.put, List.setIfInBounds_toArray, List.set_cons_succ, List.set_cons_zero]
    apply lex_any (fun v w => OwnC wb w v (D2)) (fun v w w' hg h => h.later hg)
    · intro wq hgq hdq Kq hKq
      have HH := Lib.hid (hdq 8 _ rfl (by kernel_rfl))
      clear hdq
      go_wp2
      exact hKq _ _ (Grows.rfl' _) HH.out
    intro vc1
    simp only [Act.put, List.setIfInBounds_toArray, List.set_cons_succ, List.set_cons_zero]
    apply lex_any (fun v w => OffIs (none) wb w v) (fun v w w' hg h => h.later hg)
    · intro wq hgq hdq Kq hKq
      have HH := Lib.hid (hdq 9 _ rfl (by kernel_rfl))
      clear hdq
      go_wp2
      exact hKq _ _ (Grows.rfl' _) HH.out
    intro vo1
    simp only [Act.put, List.setIfInBounds_toArray, List.set_cons_succ, List.set_cons_zero]
    refine lex_end ?_
    intro w7 hg7 hd7
    obtain ⟨vp, rfl, ho⟩ := hd7 10 _ rfl
    obtain ⟨pbx2, rfl, hpb2, hbox⟩ := hd7 11 _ rfl
    have hoc := hd7 12 _ rfl
    have hof := hd7 13 _ rfl
    clear hd7
    obtain ⟨C2, k2, rfl⟩ := ho.form
    obtain ⟨C3, k3, rfl⟩ := hoc.form
    obtain ⟨e0, e1, e2, e3, e4, e5⟩ := block_cells hbox
    have z5 := block_frozen hbox
    have HX2 : Hid (PicAt (stored w7 pbx2 (.int .i64 a) (.int .i64 b) (.int .i64 c) (.int .i64 d) (.int .i64 (sd a c 4)) (.slice C2 (F2).length k2)) pbx2 a b c d (sd a c 4) (.slice C2 (F2).length k2)) := stored_block hbox (.int .i64 a) (.int .i64 b) (.int .i64 c) (.int .i64 d) (.int .i64 (sd a c 4)) (.slice C2 (F2).length k2)
    have HO8 := Lib.hid (stored_own ho hbox hpb2 (.int .i64 a) (.int .i64 b) (.int .i64 c) (.int .i64 d) (.int .i64 (sd a c 4)) (.slice C2 (F2).length k2))
    have HC8 := Lib.hid (stored_ownC hoc hbox hpb2 (.int .i64 a) (.int .i64 b) (.int .i64 c) (.int .i64 d) (.int .i64 (sd a c 4)) (.slice C2 (F2).length k2))
    have HF8 := Lib.hid (stored_off hof hbox hpb2 (.int .i64 a) (.int .i64 b) (.int .i64 c) (.int .i64 d) (.int .i64 (sd a c 4)) (.slice C2 (F2).length k2))
    have HF8 := Lib.hid (stored_off hof hbox hpb2 (.int .i64 a) (.int .i64 b) (.int .i64 c) (.int .i64 d) (.int .i64 (sd a c 4)) (.slice C2 (F2).length k2))
    have HF8 := Lib.hid (stored_off hof hbox hpb2 (.int .i64 a) (.int .i64 b) (.int .i64 c) (.int .i64 d) (.int .i64 (sd a c 4)) (.slice C2 (F2).length k2))
    have HF8 := Lib.hid (stored_off hof hbox hpb2 (.int .i64 a) (.int .i64 b) (.int .i64 c) (.int .i64 d) (.int .i64 (sd a c 4)) (.slice C2 (F2).length k2))
    have HF8 := Lib.hid (stored_off hof hbox hpb2 (.int .i64 a) (.int .i64 b) (.int .i64 c) (.int .i64 d) (.int .i64 (sd a c 4)) (.slice C2 (F2).length k2))
    have HF8 := Lib.hid (stored_off hof hbox hpb2 (.int .i64 a) (.int .i64 b) (.int .i64 c) (.int .i64 d) (.int .i64 (sd a c 4)) (.slice C2 (F2).length k2))
    have HF8 := Lib.hid (stored_off hof hbox hpb2 (.int .i64 a) (.int .i64 b) (.int .i64 c) (.int .i64 d) (.int .i64 (sd a c 4)) (.slice C2 (F2).length k2))
    have HF8 := Lib.hid (stored_off hof hbox hpb2 (.int .i64 a) (.int .i64 b) (.int .i64 c) (.int .i64 d) (.int .i64 (sd a c 4)) (.slice C2 (F2).length k2))
    have HG8 : Hid (Grows wb (stored w7 pbx2 (.int .i64 a) (.int .i64 b) (.int .i64 c) (.int .i64 d) (.int .i64 (sd a c 4)) (.slice C2 (F2).length k2))) := stored_grows ((Grows.rfl' wb).drew'.step hg7) hpb2 _ _ _ _ _ _
    have HCH : Hid (((((((w7.setCell ⟨pbx2, 0, none⟩ (.int .i64 a)).setCell ⟨pbx2, 1, none⟩ (.int .i64 b)).setCell ⟨pbx2, 2, none⟩ (.int .i64 c)).setCell ⟨pbx2, 3, none⟩ (.int .i64 d)).setCell ⟨pbx2, 4, none⟩ (.int .i64 (sd a c 4))).setCell ⟨pbx2, 5, none⟩ (.slice C2 (F2).length k2)) = stored w7 pbx2 (.int .i64 a) (.int .i64 b) (.int .i64 c) (.int .i64 d) (.int .i64 (sd a c 4)) (.slice C2 (F2).length k2)) := rfl
    clear ho hoc hof hbox hg7
    go_upto_region 9 with fail
    rw [HCH.out]
    clear HCH z5 e0 e1 e2 e3 e4 e5
    generalize stored w7 pbx2 (.int .i64 a) (.int .i64 b) (.int .i64 c) (.int .i64 d) (.int .i64 (sd a c 4)) (.slice C2 (F2).length k2) = w8 at *
    have HPO : Hid (RdI w8 (.slice C2 F2.length k2) F2) := HO8.out.rd (by have := HFL2.out.1; omega) HFL2.out.2
    replace HCM := Lib.hid (HCM.out.later HG8.out)
    replace HOJ := Lib.hid (HOJ.out.later HG8.out)
    replace HPJ := Lib.hid (HPJ.out.grows HG8.out)
    replace HXJ := Lib.hid (HXJ.out.grows HG8.out)
    replace HB := Lib.hid (HB.out.grows HG8.out)
    replace HG := Lib.hid (HG.out.step HG8.out)
    clear HO8 HF8 HG8 HTB HXM HPM
    obtain ⟨p0, p1, p2, p3⟩ := HB.out
    obtain ⟨t0, t1, t2, t3, t4, t5⟩ := HXJ.out.cells
    obtain ⟨u0, u1, u2, u3, u4, u5⟩ := HX2.out.cells
    have haa : (a == a) = true := by simp
    have hbb : (b == b) = true := by simp
    have hcc : (c == c) = true := by simp
    have hdd : (d == d) = true := by simp
    have HQ1 : Hid (IsPic a b c d (sd a c 4) F2 (.agg #[.int .i64 a, .int .i64 b, .int .i64 c, .int .i64 d, .int .i64 (sd a c 4), .slice Cj F2.length kj]) w8) := ⟨_, rfl, HPJ.out⟩
    have HQ2 : Hid (IsPic a b c d (sd a c 4) F2 (.agg #[.int .i64 a, .int .i64 b, .int .i64 c, .int .i64 d, .int .i64 (sd a c 4), .slice C2 F2.length k2]) w8) := ⟨_, rfl, HPO.out⟩
    go_wp2_with fail
    refine (samePicture_yes a b c d (sd a c 4) _ _ F2 w8 HQ1.out HQ2.out).mono ?_
    rintro e w9 ⟨rfl, g9⟩
    have HO9 := Lib.hid (HOJ.out.later g9)
    have HM9 := Lib.hid (HCM.out.later g9)
    have HN9 := Lib.hid (HC8.out.later g9)
    replace HG := Lib.hid (HG.out.step g9)
    clear g9 HOJ HCM HC8 HQ1 HQ2 HPJ HPO
    have hdl := HDL.out.1
    go_wp2_with (at_builtin; first
      | (refine unguard rfl (appC_wp rfl _ _ rfl w9 wa (.slice none 0 0) _ [] D1 rfl (OwnC.nil (Grows.rfl' _)) rfl HM9.out (by simp; omega) ?_); intro v92 w10 hC10 hg10; have HC10 := Lib.hid hC10; clear hC10 hg10)
      | (refine unguard rfl (appC_wp rfl _ _ rfl w9 wb v92 _ ([] ++ D1) D2 rfl HC10.out rfl (HN9.out.later HC10.out.2) (by simp; omega) ?_); intro v94 w11 hC11 hg11; have HC11 := Lib.hid hC11; have hdl2 : (D1 ++ D2).length ≤ 4000000000000 := (by rw [List.length_append]; omega); have HRO : Hid (RdC w11 (.slice Cc (D1.length + D2.length) kc) (D1 ++ D2)) := (by rw [← List.length_append]; exact (HO9.out.later hC11.2).rd hdl2 HDL.out.2); have HRN : Hid (RdC w11 v94 (D1 ++ D2)) := OwnC.rd hC11 hdl2 HDL.out.2; clear hC11 hg11 hdl2))
    refine (sameCols_yes (.slice Cc (D1.length + D2.length) kc) v94 (D1 ++ D2) w11 HRO.out HRN.out).mono ?_
    rintro e w12 ⟨rfl, g12⟩
    go_wp2_with fail
    go_ret
    exact ⟨rfl, HG.out.step (HC11.out.2.step g12)⟩
  · have HF := Lib.hid hf
    clear hf
    go_wp2_with fail
    refine (fine_no _ _ _ _ _ HF.out ha hb).mono ?_
    rintro e w1 ⟨rfl, hg1⟩
    go_wp2_with fail
    go_ret
    exact ⟨rfl, ((Grows.rfl' w).alloc' _).step hg1⟩

set_option linter.unusedVariables false
set_option maxRecDepth 100000 in
theorem lifted (os : Os) (started : os.Started) (H : Type) (enc : TypeId × Value → H) :
    ReturnsInHanded {} Try.checked os 7 .any (Rows.fnCMYKSplitSpec.pre6 enc Try.prog Try.f7 Rows.fnCMYKSplitRow.domain false) (Rows.fnCMYKSplitSpec.post enc Try.prog Try.f7 false true false false) := by
  refine returnsInHanded_of_change_sized (C := Try.checked) own started (by kernel_rfl) Try.func7
    (ChangeSpec.witness6 (enc := enc) (C := Try.checked) false ⟨#[], #[.agg #[.int .i64 0, .int .i64 0, .int .i64 0, .int .i64 0], .slice none 0 0, .slice none 0 0, .int .i64 0], []⟩ 8 (by kernel_rfl) (by kernel_rfl) (by kernel_rfl) (by kernel_rfl)) ?_
  intro W base args ds gs before hval0 hW hcnd hsz0 _
  have hval : ∀ (j : Nat) t v, Try.f7.params[j]? = some t → args[j]? = some v → Value.okWide Try.prog W .any base t v := hval0
  have hsz : (DataW.weightsEach Try.prog (Try.f7.params.toList ++ Rows.fnCMYKSplitSpec.plain.varTypes Try.prog) (ds ++ gs)).all (· ≤ reachBytes) = true := hsz0
  clear hsz0
  have hW' := hW
  obtain ⟨p, q, hA0, hV, rfl, hfz, hnd⟩ := hW
  have hA : DataW.TrodAll enc Try.prog W 0 (fun _ => true) true Try.f7.params.toList args.toList ds p := hA0
  rw [Try.params7] at hA hval hsz
  obtain ⟨v0, vs0, d0, ds0, p0, q0, hargs, rfl, rfl, h0, r0⟩ := trodAll_cons hA
  obtain ⟨v1, vs1, d1, ds1, p1, q1, rfl, rfl, rfl, h1, r1⟩ := trodAll_cons r0
  obtain ⟨v2, vs2, d2, ds2, p2, q2, rfl, rfl, rfl, h2, r2⟩ := trodAll_cons r1
  obtain ⟨v3, vs3, d3, ds3, p3, q3, rfl, rfl, rfl, h3, r3⟩ := trodAll_cons r2
  obtain ⟨rfl, rfl, rfl⟩ := trodAll_nil r3
  obtain rfl : args = #[v0, v1, v2, v3] := by cases args; simp_all
  obtain ⟨rfl, rfl⟩ := trodVars_none hV
  have k0 := h0
  have lt0 : ∀ x ∈ p0, x.block < W.heap.size := by obtain ⟨m, hm⟩ := k0; exact DataW.trod_lt m _ _ _ hm
  have k1 := h1
  have lt1 : ∀ x ∈ p1, x.block < W.heap.size := by obtain ⟨m, hm⟩ := k1; exact DataW.trod_lt m _ _ _ hm
  have k2 := h2
  have lt2 : ∀ x ∈ p2, x.block < W.heap.size := by obtain ⟨m, hm⟩ := k2; exact DataW.trod_lt m _ _ _ hm
  have k3 := h3
  have lt3 : ∀ x ∈ p3, x.block < W.heap.size := by obtain ⟨m, hm⟩ := k3; exact DataW.trod_lt m _ _ _ hm
  obtain ⟨s0a, s0b, s0c, s0d, rfl, ⟨b0a, b0b, b0c, b0d⟩⟩ := open_four Try.underlying23 (by kernel_rfl) cells23 (hval 0 23 v0 rfl rfl) h0
  obtain ⟨z1, hz1⟩ := open_list (hval 1 24 v1 rfl rfl) h1 (fun el sp hd => by subst hd; exact sized_slice hsz (j := 1) (t := 24) (e := 3) rfl rfl Try.underlying24)
  obtain ⟨z2, hz2⟩ := open_acts2 (hval 2 25 v2 rfl rfl) h2 (fun el sp hd => by subst hd; exact sized_slice hsz (j := 2) (t := 25) (e := 61) rfl rfl Try.underlying25)
  obtain ⟨x3, rfl, he3, _, w3⟩ := open_int Try.underlying3 (hval 3 3 v3 rfl rfl) h3
  refine (walk s0a s0b s0c s0d v1 z1 v2 z2 x3 W b0a b0b b0c b0d hz1 hz2 (bounds_i64 w3)).mono fun e W' ⟨he, bel⟩ => ?_
  subst he
  exact ⟨_, rfl, _, _, _, [], _, [], hW', trodAll_mk1 (shut_bool Try.underlying4 _), (trodAll_cons_mk (Below.trod laidOut (by kernel_rfl) (of_decide_eq_true (by kernel_rfl)) k0 bel lt0) (trodAll_cons_mk (Below.trod laidOut (by kernel_rfl) (of_decide_eq_true (by kernel_rfl)) k1 bel lt1) (trodAll_cons_mk (Below.trod laidOut (by kernel_rfl) (of_decide_eq_true (by kernel_rfl)) k2 bel lt2) (trodAll_cons_mk (Below.trod laidOut (by kernel_rfl) (of_decide_eq_true (by kernel_rfl)) k3 bel lt3) trodAll_mk0)))), rfl, bel.frame _, fun h => by cases h⟩

theorem proved : Rows.FnCMYKSplitSaid :=
  OpenClaim.holds_of_wide 7 Try.f7 rfl rfl rfl rfl rfl rfl rfl ⟨rfl, rfl, rfl, rfl, rfl⟩ rfl rfl rfl rfl rfl (by kernel_rfl) Try.func7 (by kernel_rfl)
    (of_decide_eq_true (by kernel_rfl)) (by unfold Func.isWrapper; first | (rw [if_pos (by decide +kernel)]; kernel_rfl) | (rw [if_neg (by decide +kernel)]; exact ⟨rfl, rfl⟩))
    (fun os started H enc _ => lifted os started H enc)
#print axioms proved
end Go.Proofs.Ytbedollfokdldaa.lawCMYKSplit

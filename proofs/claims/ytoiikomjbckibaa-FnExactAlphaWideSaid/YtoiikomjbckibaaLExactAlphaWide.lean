/-
  FnExactAlphaWide returns true for every number, and each argument reads afterwards as before. Conditions: none beyond the row's own.
-/
import Derived.Test.YtoiikomjbckibaaExact
import Derived.Test.YtoiikomjbckibaaLift
namespace Go.Proofs.Ytoiikomjbckibaa.lawExactAlphaWide
open Go.ChangeShapes Go.WideShapes Go.ChangeAt Go.RowKit

theorem block_lt {w : World} {g : Nat} {o : Obj} (h : w.heap[g]? = some o) : g < w.heap.size := by
  rcases Nat.lt_or_ge g w.heap.size with h1 | h1
  · exact h1
  · rw [Array.getElem?_eq_none h1] at h; cases h

set_option maxHeartbeats 1000000 in
theorem walk (n : Int) (w : World) (_ : -9223372036854775808 ≤ n ∧ n ≤ 9223372036854775807) :
    Calls Try.prog 3 #[.int .i64 n] w fun e w' => e = .returned (.bool true) ∧ Grows w w' := by
  have hm := mod256 n
  go_enter Try.func3, Try.ntmps3
  go_wp2_with fail
  refine (specAlphaWide_any _ _).mono ?_
  rintro e w1 ⟨g0, rfl, hge0, hb0, hg0⟩
  go_wp2_with fail
  refine (alphaWide_any _ _).mono ?_
  rintro e w2 ⟨g1, rfl, hge1, hb1, hg1⟩
  have hb0' := (hg1.block g0 (block_lt hb0)).trans hb0
  have hne : g0 ≠ g1 := by have := block_lt hb0; omega
  have hgw : w.heap.size ≤ g1 := Nat.le_trans hg0.size hge1
  have HN := Lib.hid hne
  have HW := Lib.hid hgw
  have HG := Lib.hid (hg0.step hg1)
  have R0 := Lib.hid (quad_reads hb0' (by omega) (by omega) (by omega) (by omega))
  have R1 := Lib.hid (quad_reads hb1 (by omega) (by omega) (by omega) (by omega))
  have B0 := Lib.hid hb0'
  have B1 := Lib.hid hb1
  clear hb0 hb0' hb1 hg0 hg1 hge0 hge1 hne hgw
  go_wp2_with fail
  refine (eqIntS_yes _ _ _ _ R1.out R0.out).mono ?_
  rintro e w3 ⟨rfl, hg3⟩
  have C0 := Lib.hid ((hg3.block g0 (block_lt B0.out)).trans B0.out)
  have C1 := Lib.hid ((hg3.block g1 (block_lt B1.out)).trans B1.out)
  have HG3 := Lib.hid (HG.out.step hg3)
  clear hg3 B0 B1 R0 R1 HG
  go_wp2_with fail
  refine (mark_any g1 _ _ _ _ _ C1.out).mono ?_
  rintro e w4 ⟨rfl, hb4, hgr⟩
  have D0 := Lib.hid ((hgr.block g0 (block_lt C0.out) (fun e => HN.out (by simpa using e))).trans C0.out)
  have D1 := Lib.hid hb4
  have HG4 := Lib.hid (HG3.out.grown' hgr (fun k hk => by have := HW.out; have e : g1 = k := by simpa using hk
                                                          omega))
  clear hb4 hgr C0 C1 HG3
  go_wp2_with fail
  refine (held_any g1 _ D1.out).mono ?_
  rintro e w' ⟨rfl, rfl⟩
  go_wp2_with fail
  refine (alphaWide_any _ _).mono ?_
  rintro e w5 ⟨g2, rfl, hge2, hb2, hg2⟩
  have E0 := Lib.hid (quad_reads ((hg2.block g0 (block_lt D0.out)).trans D0.out) (by omega) (by omega) (by omega) (by omega))
  have E1 := Lib.hid ((hg2.block g1 (block_lt D1.out)).trans D1.out)
  have E2 := Lib.hid (quad_reads hb2 (by omega) (by omega) (by omega) (by omega))
  have HG5 := Lib.hid (HG4.out.step hg2)
  clear hb2 hg2 hge2 D0 D1 HG4
  go_wp2_with fail
  refine (eqIntS_yes _ _ _ _ E2.out E0.out).mono ?_
  rintro e w6 ⟨rfl, hg6⟩
  have F1 := Lib.hid ((hg6.block g1 (block_lt E1.out)).trans E1.out)
  have HG6 := Lib.hid (HG5.out.step hg6)
  clear hg6 E0 E1 E2 HG5
  go_wp2_with fail
  refine (held_any g1 _ F1.out).mono ?_
  rintro e w' ⟨rfl, rfl⟩
  go_wp2_with fail
  go_ret
  exact ⟨rfl, HG6.out⟩

set_option linter.unusedVariables false
set_option maxRecDepth 100000 in
theorem lifted (os : Os) (started : os.Started) (H : Type) (enc : TypeId × Value → H) :
    ReturnsInHanded {} Try.checked os 3 .any (Rows.fnExactAlphaWideSpec.pre6 enc Try.prog Try.f3 Rows.fnExactAlphaWideRow.domain false) (Rows.fnExactAlphaWideSpec.post enc Try.prog Try.f3 false true false false) := by
  refine returnsInHanded_of_change_sized (C := Try.checked) own started (by kernel_rfl) Try.func3
    (ChangeSpec.witness6 (enc := enc) (C := Try.checked) false ⟨#[], #[.int .i64 0], []⟩ 8 (by kernel_rfl) (by kernel_rfl) (by kernel_rfl) (by kernel_rfl)) ?_
  intro W base args ds gs before hval0 hW hcnd hsz0 _
  have hval : ∀ (j : Nat) t v, Try.f3.params[j]? = some t → args[j]? = some v → Value.okWide Try.prog W .any base t v := hval0
  have hsz : (DataW.weightsEach Try.prog (Try.f3.params.toList ++ Rows.fnExactAlphaWideSpec.plain.varTypes Try.prog) (ds ++ gs)).all (· ≤ reachBytes) = true := hsz0
  clear hsz0
  have hW' := hW
  obtain ⟨p, q, hA0, hV, rfl, hfz, hnd⟩ := hW
  have hA : DataW.TrodAll enc Try.prog W 0 (fun _ => true) true Try.f3.params.toList args.toList ds p := hA0
  rw [Try.params3] at hA hval hsz
  obtain ⟨v0, vs0, d0, ds0, p0, q0, hargs, rfl, rfl, h0, r0⟩ := trodAll_cons hA
  obtain ⟨rfl, rfl, rfl⟩ := trodAll_nil r0
  obtain rfl : args = #[v0] := by cases args; simp_all
  obtain ⟨rfl, rfl⟩ := trodVars_none hV
  have k0 := h0
  have lt0 : ∀ x ∈ p0, x.block < W.heap.size := by obtain ⟨m, hm⟩ := k0; exact DataW.trod_lt m _ _ _ hm
  obtain ⟨x0, rfl, he0, _, w0⟩ := open_int Try.underlying3 (hval 0 3 v0 rfl rfl) h0
  refine (walk x0 W (bounds_i64 w0)).mono fun e W' ⟨he, bel⟩ => ?_
  subst he
  exact ⟨_, rfl, _, _, _, [], _, [], hW', trodAll_mk1 (shut_bool Try.underlying4 _), (trodAll_cons_mk (Below.trod laidOut (by kernel_rfl) (of_decide_eq_true (by kernel_rfl)) k0 bel lt0) trodAll_mk0), rfl, bel.frame _, fun h => by cases h⟩

theorem proved : Rows.FnExactAlphaWideSaid :=
  OpenClaim.holds_of_wide 3 Try.f3 rfl rfl rfl rfl rfl rfl rfl ⟨rfl, rfl, rfl, rfl, rfl⟩ rfl rfl rfl rfl rfl (by kernel_rfl) Try.func3 (by kernel_rfl)
    (of_decide_eq_true (by kernel_rfl)) (by unfold Func.isWrapper; first | (rw [if_pos (by decide +kernel)]; kernel_rfl) | (rw [if_neg (by decide +kernel)]; exact ⟨rfl, rfl⟩))
    (fun os started H enc _ => lifted os started H enc)
#print axioms proved
end Go.Proofs.Ytoiikomjbckibaa.lawExactAlphaWide

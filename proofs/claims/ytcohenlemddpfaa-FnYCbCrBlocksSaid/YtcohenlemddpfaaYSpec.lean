/-
  Contracts of the reference's YCbCrCOffset, area and YCbCrNew, and of the statements' samePlanes. Conditions stand in each theorem.
-/
import Derived.Test.YtcohenlemddpfaaYImp
namespace Go.Proofs.Ytcohenlemddpfaa
open Go.RowKit
set_option linter.unusedVariables false

theorem divs {x h : Int} (hh : h = 1 ∨ h = 2 ∨ h = 4) (hx : 0 ≤ x) : x.tdiv h = x / h ∧ 0 ≤ x / h ∧ x / h ≤ x := by
  refine ⟨Int.tdiv_eq_ediv_of_nonneg hx, ?_⟩
  rcases hh with rfl | rfl | rfl <;> omega

set_option maxRecDepth 20000 in
set_option maxHeartbeats 4000000 in
theorem specCOff_any (a b c d r x y : Int) (w : World) (hp : PlainY a b c d r) (hin : Inn a b c d x y) :
    Calls Try.prog 32 #[box4 a b c d, .int .i64 r, .int .i64 x, .int .i64 y] w fun e w' => e = .returned (.int .i64 (cAt a b c r x y)) ∧ Grows w w' := by
  have HE := Lib.hid (hp.cAt_eq hin).1
  have hcw := hp.cw
  have h4 : ∀ s, s = 1 ∨ s = 2 → s = 1 ∨ s = 2 ∨ s = (4 : Int) := fun s h => by omega
  have hh := hsp_or r
  have hw := h4 _ (vsp_or r)
  obtain ⟨⟨⟨f1, f2⟩, ⟨f3, f4⟩, _, ⟨f7, f8⟩⟩, ⟨g1, g2⟩, ⟨g3, g4⟩, ⟨r0, r5⟩⟩ := hp
  obtain ⟨i1, i2, i3, i4⟩ := hin
  have HA : Hid (∀ W, Calls Try.prog 43 #[.int .i64 a, .int .i64 c, .int .i64 (hsp r)] W fun e w' => e = .returned (.int .i64 (acr a c (hsp r))) ∧ Grows W w') := fun W => across_any a c _ W hh (by omega) (by omega) (by omega) (by omega)
  have HSP : Hid (∀ W, Calls Try.prog 35 #[.int .i64 r] W fun e w' => e = .returned (.tuple #[.int .i64 (hsp r), .int .i64 (vsp r), .bool true]) ∧ W = w') := fun W => span_any r W r0 r5
  have py := pos_in (lo := b) (hi := d) (x := y) hw (by omega) i3 i4
  have pl : acr b d (vsp r) ≤ 1000 := (acr_in hw g2 g4 (by omega)).2
  obtain ⟨d1, d1a, d1b⟩ := divs (x := x) hh (by omega)
  obtain ⟨d2, d2a, d2b⟩ := divs (x := a) hh (by omega)
  obtain ⟨d3, d3a, d3b⟩ := divs (x := y) hw (by omega)
  obtain ⟨d4, d4a, d4b⟩ := divs (x := b) hw (by omega)
  have nh : ¬ hsp r = 0 := by omega
  have nw : ¬ vsp r = 0 := by omega
  have m1 : 0 ≤ (y / vsp r - b / vsp r) * acr a c (hsp r) := Int.mul_nonneg py.1 (by omega)
  have m2 : (y / vsp r - b / vsp r) * acr a c (hsp r) ≤ 1000 * 1000 := Int.mul_le_mul (by omega) (by omega) (by omega) (by omega)
  have px := pos_in (lo := a) (hi := c) (x := x) hh (by omega) i1 i2
  generalize cAt a b c r x y = i at *
  generalize acr a c (hsp r) = cw at *
  generalize acr b d (vsp r) = ch at *
  generalize hsp r = h at *
  generalize vsp r = q at *
  generalize x / h = X at *
  generalize a / h = A at *
  generalize y / q = Y at *
  generalize b / q = B at *
  have hE := HE.out
  clear hh hw h4 HE
  go_enter Try.func32, Try.ntmps32
  go_wp2_with fail
  refine (HSP.out _).mono ?_
  rintro e w1 ⟨rfl, rfl⟩
  have HBX : Hid (BoxAt (w.alloc (.cells #[.int .i64 a, .int .i64 b, .int .i64 c, .int .i64 d] 25)) w.heap.size a b c d) := ⟨cell_top rfl rfl, cell_top rfl rfl, cell_top rfl rfl, cell_top rfl rfl⟩
  have HG : Hid (Grows w (w.alloc (.cells #[.int .i64 a, .int .i64 b, .int .i64 c, .int .i64 d] 25))) := (Grows.rfl' w).alloc' _
  generalize w.alloc (.cells #[.int .i64 a, .int .i64 b, .int .i64 c, .int .i64 d] 25) = w1 at *
  go_wp2_with fail
  apply wp_region_lex_lit 25 (by kernel_rfl) (by kernel_rfl)
  iterate 25
    apply lex_pin
    · intro wq hgq hdq Kq hKq
      obtain ⟨q0, q1, q2, q3⟩ := HBX.out.grows ((Grows.rfl' _).drew'.step hgq)
      go_wp2_with ((go_at_call 43; refine (HA.out _).mono ?_); rintro e wq' ⟨rfl, hgq'⟩)
      first | exact hKq _ (Grows.rfl' _) | exact hKq _ hgq'
    · kernel_rfl
  refine lex_end ?_
  intro w3 hg3 _
  go_wp2
  go_ret
  exact ⟨by first | rfl | exact ret_int (by omega), HG.out.drew'.step hg3⟩
end Go.Proofs.Ytcohenlemddpfaa

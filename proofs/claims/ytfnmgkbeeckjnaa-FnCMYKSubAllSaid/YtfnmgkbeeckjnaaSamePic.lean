/-
  samePicture returns true for two pictures with the same bounds, stride and bytes. Conditions stand in the theorem.
-/
import Derived.Test.YtfnmgkbeeckjnaaSame
import Derived.Test.YtfnmgkbeeckjnaaSpec
namespace Go.Proofs.Ytfnmgkbeeckjnaa
open Go.RowKit
set_option linter.unusedVariables false

theorem sameInts_yes (v1 v2 : Value) (xs : List Int) (w : World) (h1 : RdI w v1 xs) (h2 : RdI w v2 xs) :
    Calls Try.prog 19 #[v1, v2] w fun e w' => e = .returned (.bool true) ∧ Grows w w' :=
  (sameInts_any v1 v2 xs xs w h1 h2).mono fun _ _ ⟨he, hg⟩ => ⟨by rw [he]; simp, hg⟩

/-- A picture that reads as bounds, stride and bytes. -/
def IsPic (a b c d st : Int) (zs : List Int) (v : Value) (w : World) : Prop := ∃ p, v = .agg #[.int .i64 a, .int .i64 b, .int .i64 c, .int .i64 d, .int .i64 st, p] ∧ RdI w p zs
theorem IsPic.keep {a b c d st : Int} {zs : List Int} (v : Value) (w w' : World) (hg : Grows w w') (h : IsPic a b c d st zs v w) : IsPic a b c d st zs v w' := by
  obtain ⟨p, hv, hr⟩ := h
  exact ⟨p, hv, hr.grows hg⟩

theorem NewPic.isPic {a b c d st : Int} {zs : List Int} {W w : World} {e : Ending} (h : NewPic a b c d st zs W e w) (hl : zs.length ≤ 17592186044416) (hz : ∀ n ∈ zs, -9223372036854775808 ≤ n ∧ n ≤ 9223372036854775807) :
    ∃ v, e = .returned v ∧ Grows W w ∧ IsPic a b c d st zs v w := by
  obtain ⟨v, rfl, ho⟩ := h
  exact ⟨_, rfl, ho.2, v, rfl, ho.rd hl hz⟩

theorem field_rect (a b c d st : Int) (p : Value) (w : World) : (Instr.field 44 (.agg #[.int .i64 a, .int .i64 b, .int .i64 c, .int .i64 d, .int .i64 st, p]) 0).run Try.prog w = .ok (box4 a b c d) w := by kernel_rfl
theorem field_pix (a b c d st : Int) (A : Option Addr) (n m : Nat) (w : World) : (Instr.field 44 (.agg #[.int .i64 a, .int .i64 b, .int .i64 c, .int .i64 d, .int .i64 st, .slice A n m]) 2).run Try.prog w = .ok (.slice A n m) w := by kernel_rfl

/-- A picture with these bounds, whatever its pixels. -/
def HasRect (a b c d : Int) (v : Value) (w : World) : Prop := ∃ st p, v = .agg #[.int .i64 a, .int .i64 b, .int .i64 c, .int .i64 d, .int .i64 st, p]
theorem HasRect.keep {a b c d : Int} (v : Value) (w w' : World) (hg : Grows w w') (h : HasRect a b c d v w) : HasRect a b c d v w' := h
theorem NewPic.hasRect {a b c d st : Int} {zs : List Int} {W w : World} {e : Ending} (h : NewPic a b c d st zs W e w) : ∃ v, e = .returned v ∧ Grows W w ∧ HasRect a b c d v w := by
  obtain ⟨v, rfl, ho⟩ := h
  exact ⟨_, rfl, ho.2, _, _, rfl⟩
end Go.Proofs.Ytfnmgkbeeckjnaa

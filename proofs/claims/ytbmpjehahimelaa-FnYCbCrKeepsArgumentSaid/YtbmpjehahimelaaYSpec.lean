/-
  Contracts of the reference's YCbCrCOffset, area and YCbCrNew, and of the statements' samePlanes. Conditions stand in each theorem.
-/
import Derived.Test.YtbmpjehahimelaaYImp
namespace Go.Proofs.Ytbmpjehahimelaa
open Go.RowKit
set_option linter.unusedVariables false

theorem divs {x h : Int} (hh : h = 1 ∨ h = 2 ∨ h = 4) (hx : 0 ≤ x) : x.tdiv h = x / h ∧ 0 ≤ x / h ∧ x / h ≤ x := by
  refine ⟨Int.tdiv_eq_ediv_of_nonneg hx, ?_⟩
  rcases hh with rfl | rfl | rfl <;> omega

end Go.Proofs.Ytbmpjehahimelaa

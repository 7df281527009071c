/-
  Contracts of the statements' samePlanes and of the reference's area and YCbCrNew. Conditions stand in each theorem.
-/
import Derived.Test.YtbmpjehahimelaaYSpec
import Derived.Test.YtbmpjehahimelaaSame
import Derived.Deep.Cut
namespace Go.Proofs.Ytbmpjehahimelaa
open Go.RowKit
set_option linter.unusedVariables false

/-- Planes that read as bounds, strides, ratio and three lists. -/
def RdPl (a b c d ys cs r : Int) (L1 L2 L3 : List Int) (v : Value) (w : World) : Prop :=
  ∃ p1 p2 p3, v = .agg #[.int .i64 a, .int .i64 b, .int .i64 c, .int .i64 d, .int .i64 ys, .int .i64 cs, .int .i64 r, p1, p2, p3] ∧ RdI w p1 L1 ∧ RdI w p2 L2 ∧ RdI w p3 L3
theorem RdPl.keep {a b c d ys cs r : Int} {L1 L2 L3 : List Int} (v : Value) (w w' : World) (hg : Grows w w') (h : RdPl a b c d ys cs r L1 L2 L3 v w) : RdPl a b c d ys cs r L1 L2 L3 v w' := by
  obtain ⟨p1, p2, p3, h0, h1, h2, h3⟩ := h
  exact ⟨p1, p2, p3, h0, h1.grows hg, h2.grows hg, h3.grows hg⟩
theorem IsPl.rd {a b c d ys cs r : Int} {L1 L2 L3 : List Int} {W w : World} {v : Value} (h : IsPl a b c d ys cs r L1 L2 L3 W v w) (l1 : L1.length ≤ 17592186044416) (l2 : L2.length ≤ 17592186044416) (l3 : L3.length ≤ 17592186044416)
    (z1 : ∀ n ∈ L1, -9223372036854775808 ≤ n ∧ n ≤ 9223372036854775807) (z2 : ∀ n ∈ L2, -9223372036854775808 ≤ n ∧ n ≤ 9223372036854775807) (z3 : ∀ n ∈ L3, -9223372036854775808 ≤ n ∧ n ≤ 9223372036854775807) : RdPl a b c d ys cs r L1 L2 L3 v w := by
  obtain ⟨p1, p2, p3, h0, h1, h2, h3⟩ := h
  exact ⟨p1, p2, p3, h0, h1.rd l1 z1, h2.rd l2 z2, h3.rd l3 z3⟩

theorem sameInts_yes (v1 v2 : Value) (xs : List Int) (w : World) (h1 : RdI w v1 xs) (h2 : RdI w v2 xs) :
    Calls Try.prog 16 #[v1, v2] w fun e w' => e = .returned (.bool true) ∧ Grows w w' :=
  (sameInts_any v1 v2 xs xs w h1 h2).mono fun _ _ ⟨he, hg⟩ => ⟨by rw [he]; simp, hg⟩



end Go.Proofs.Ytbmpjehahimelaa

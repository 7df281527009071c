/-
  What is read behind a write: contracts of the thin package's CMYKRead on the bytes that CMYKWrite leaves. Conditions stand in each theorem.
-/
import Derived.Test.YtchpneinjndlpaaPut
import Derived.Test.YtchpneinjndlpaaRead
namespace Go.Proofs.Ytchpneinjndlpaa
open Go.RowKit
set_option linter.unusedVariables false

theorem px_wr_same {a b c d x y : Int} {k : Nat} {zs ns : List Int} (hf : Fine a b c d) (hk : k ≤ 4) (hin : Inn a b c d x y) (hl : ns.length = k) (hn : ∀ m ∈ ns, 0 ≤ m ∧ m ≤ 255) {j : Nat} (hj : j < k) :
    px a b c d k (bytesOf (total a b c d k) (wr a b c d k (byteAt zs) x y ns)) x y j = ns.getD j 0 := by
  obtain ⟨i, hi, hil⟩ := inside_at hf hk hin
  rw [px_in hin hi, byteAt_bytesOf (wr_in255 (byteAt_in zs) hn) (by omega), wr_in hin hi, putF_at (by omega)]

theorem px_wr_else {a b c d x y u v : Int} {k : Nat} {zs ns : List Int} (hf : Fine a b c d) (hk1 : 1 ≤ k) (hk : k ≤ 4) (hin : Inn a b c d x y) (hin2 : Inn a b c d u v) (hne : ¬ (x = u ∧ y = v)) (hl : ns.length = k) (hn : ∀ m ∈ ns, 0 ≤ m ∧ m ≤ 255) {j : Nat} (hj : j < k) :
    px a b c d k (bytesOf (total a b c d k) (wr a b c d k (byteAt zs) x y ns)) u v j = px a b c d k zs u v j := by
  obtain ⟨i, hi, hil⟩ := inside_at hf hk hin
  obtain ⟨i2, hi2, hil2⟩ := inside_at hf hk hin2
  have hap := apart_at hk1 hk hf hin hin2 hi hi2 hne
  rw [px_in hin2 hi2, px_in hin2 hi2, byteAt_bytesOf (wr_in255 (byteAt_in zs) hn) (by omega), wr_in hin hi, putF_else (by omega)]

theorem ns255 {n0 n1 n2 n3 : Int} : ∀ m ∈ [n0 % 256, n1 % 256, n2 % 256, n3 % 256], 0 ≤ m ∧ m ≤ 255 := by intro m hm; simp at hm; omega

theorem readback_same (a b c d x y n0 n1 n2 n3 : Int) (v : Value) (zs : List Int) (w : World) (hf : Fine a b c d) (hin : Inn a b c d x y) (h : RdI w v (bytesOf (total a b c d 4) (wr a b c d 4 (byteAt zs) x y [n0 % 256, n1 % 256, n2 % 256, n3 % 256]))) :
    Calls Try.prog 16 #[box4 a b c d, v, .int .i64 x, .int .i64 y] w fun e w' => e = .returned (.agg #[.int .i64 (n0 % 256), .int .i64 (n1 % 256), .int .i64 (n2 % 256), .int .i64 (n3 % 256)]) ∧ Grows w w' := by
  refine (read_any a b c d x y v _ w hf h).mono ?_
  rintro e w' ⟨rfl, hg⟩
  refine ⟨?_, hg⟩
  have e0 : ∀ j, j < 4 → px a b c d 4 (bytesOf (total a b c d 4) (wr a b c d 4 (byteAt zs) x y [n0 % 256, n1 % 256, n2 % 256, n3 % 256])) x y j = ([n0 % 256, n1 % 256, n2 % 256, n3 % 256]).getD j 0 := fun j hj => px_wr_same (k := 4) hf (by omega) hin rfl ns255 hj
  rw [e0 0 (by omega), e0 1 (by omega), e0 2 (by omega), e0 3 (by omega)]
  rfl

theorem readback_else (a b c d x y u0 v0 n0 n1 n2 n3 : Int) (v : Value) (zs : List Int) (w : World) (hf : Fine a b c d) (hin : Inn a b c d x y) (hin2 : Inn a b c d u0 v0) (hne : ¬ (x = u0 ∧ y = v0)) (h : RdI w v (bytesOf (total a b c d 4) (wr a b c d 4 (byteAt zs) x y [n0 % 256, n1 % 256, n2 % 256, n3 % 256]))) :
    Calls Try.prog 16 #[box4 a b c d, v, .int .i64 u0, .int .i64 v0] w fun e w' => e = .returned (.agg #[.int .i64 (px a b c d 4 zs u0 v0 0), .int .i64 (px a b c d 4 zs u0 v0 1), .int .i64 (px a b c d 4 zs u0 v0 2), .int .i64 (px a b c d 4 zs u0 v0 3)]) ∧ Grows w w' := by
  refine (read_any a b c d u0 v0 v _ w hf h).mono ?_
  rintro e w' ⟨rfl, hg⟩
  refine ⟨?_, hg⟩
  have e0 : ∀ j, j < 4 → px a b c d 4 (bytesOf (total a b c d 4) (wr a b c d 4 (byteAt zs) x y [n0 % 256, n1 % 256, n2 % 256, n3 % 256])) u0 v0 j = px a b c d 4 zs u0 v0 j := fun j hj => px_wr_else (k := 4) hf (by omega) (by omega) hin hin2 hne rfl ns255 hj
  rw [e0 0 (by omega), e0 1 (by omega), e0 2 (by omega), e0 3 (by omega)]

/-- The picture that Write gives. -/
theorem written_any (a b c d x y n0 n1 n2 n3 : Int) (v : Value) (zs : List Int) (w : World) (hf : Fine a b c d) (h : RdI w v zs) :
    Calls Try.prog 13 #[box4 a b c d, v, .int .i64 x, .int .i64 y, box4 n0 n1 n2 n3] w fun e w' => ∃ v', e = .returned v' ∧ Grows w w' ∧ IsPic a b c d (sd a c 4) (bytesOf (total a b c d 4) (wr a b c d 4 (byteAt zs) x y [n0 % 256, n1 % 256, n2 % 256, n3 % 256])) v' w' := by
  have htl := total_le (k := 4) (by omega) hf
  refine (write_any a b c d x y n0 n1 n2 n3 v zs w hf h).mono ?_
  intro e w' hp
  refine hp.isPic (by rw [bytesOf_length]; omega) (bytesOf_in fun i _ => ?_)
  have hh : 0 ≤ wr a b c d 4 (byteAt zs) x y [n0 % 256, n1 % 256, n2 % 256, n3 % 256] i ∧ wr a b c d 4 (byteAt zs) x y [n0 % 256, n1 % 256, n2 % 256, n3 % 256] i ≤ 255 := wr_in255 (byteAt_in zs) ns255 i
  omega
end Go.Proofs.Ytchpneinjndlpaa

/-
  Two lists of colors that read the same are told to be equal. Conditions: both arguments read as that list.
-/
import Derived.Test.YtheijicdhfpidaaRows2
import Derived.Test.YtheijicdhfpidaaSamePic
namespace Go.Proofs.Ytheijicdhfpidaa
open Go.RowKit
set_option linter.unusedVariables false

/-- A slice that reads as a list of colors. -/
def RdC (w : World) (v : Value) (cs : List (List Int)) : Prop :=
  ∃ (A : Option Addr) (c : Nat), v = .slice A cs.length c ∧ cs.length ≤ c ∧ c ≤ 9223372036854775807 ∧ cs.length ≤ 4000000000000 ∧ (∀ l ∈ cs, l.length = 1 ∧ ∀ m ∈ l, -9223372036854775808 ≤ m ∧ m ≤ 9223372036854775807) ∧
    ∀ (j : Nat) (l : List Int), cs[j]? = some l → ∃ b o, A = some ⟨b, o, none⟩ ∧ ∀ (i : Nat) (m : Int), l[i]? = some m → w.cell? ⟨b, o + j * 1 + i, none⟩ = some (.int .i64 m)
theorem RdC.grows {w w' : World} {v : Value} {cs : List (List Int)} (h : RdC w v cs) (hg : Grows w w') : RdC w' v cs := by
  obtain ⟨A, c, h1, h2, h2', h3, h4, h5⟩ := h
  refine ⟨A, c, h1, h2, h2', h3, h4, fun j l hj => ?_⟩
  obtain ⟨b, o, ha, hc⟩ := h5 j l hj
  exact ⟨b, o, ha, fun i m hi => hg.cell_some (hc i m hi)⟩
theorem flatC_at {cs : List (List Int)} {k j i : Nat} {l : List Int} (hk : ∀ l ∈ cs, l.length = k) (h : cs[j]? = some l) (hi : i < k) : cs.flatten[j * k + i]? = l[i]? := by
  induction cs generalizing j with
  | nil => simp at h
  | cons l0 t ih =>
    rw [List.flatten_cons]
    have h0 : l0.length = k := hk l0 (by simp)
    cases j with
    | zero =>
      simp only [List.getElem?_cons_zero, Option.some.injEq] at h
      subst h
      rw [Nat.zero_mul, Nat.zero_add, List.getElem?_append_left (by omega)]
    | succ j =>
      have e2 : (j + 1) * k = j * k + k := Nat.succ_mul j k
      rw [List.getElem?_append_right (by omega), h0]
      have e : (j + 1) * k + i - k = j * k + i := by omega
      rw [e]
      exact ih (fun l hl => hk l (by simp [hl])) (by simpa using h)
theorem OwnC.rd {W w : World} {v : Value} {cs : List (List Int)} (h : OwnC W w v cs) (hl : cs.length ≤ 4000000000000) (hz : ∀ l ∈ cs, l.length = 1 ∧ ∀ m ∈ l, -9223372036854775808 ≤ m ∧ m ≤ 9223372036854775807) : RdC w v cs := by
  rcases h.1.2 with ⟨rfl, h0⟩ | ⟨g, cap, cur, rfl, hg, hh, hnc, hcm, hcs, hcur⟩
  · have e : cs = [] := List.eq_nil_of_length_eq_zero h0
    subst e
    exact ⟨none, 0, rfl, by simp, by omega, by simp, by simp, by simp⟩
  · unfold maxLen at hcm
    refine ⟨_, cap, rfl, hnc, hcm, hl, hz, fun j l hj => ⟨g, 0, rfl, fun i n hi => ?_⟩⟩
    have hlm := (hz l (List.mem_of_getElem? hj)).1
    have hik : i < 1 := by have := (List.getElem?_eq_some_iff.1 hi).1; omega
    have hc := h.1.cells (g := g) rfl (j * 1 + i) (.int .i64 n) (by rw [List.getElem?_map, flatC_at (fun l hl => (hz l hl).1) hj hik, hi]; rfl)
    have e : (⟨g, 0, none⟩ : Addr).add (j * 1 + i) = ⟨g, 0 + j * 1 + i, none⟩ := by unfold Addr.add; split <;> simp_all
    rw [e] at hc
    exact hc
theorem RdC.ints {w : World} {v : Value} {cs : List (List Int)} (h : RdC w v cs) : RdI w v cs.flatten := by
  obtain ⟨A, c, rfl, h2, h2', h3, h4, h5⟩ := h
  have hfl : cs.flatten.length = cs.length := by
    clear h5 h2 h3
    induction cs with
    | nil => rfl
    | cons l t ih =>
      rw [List.flatten_cons, List.length_append, List.length_cons, ih fun l hl => h4 l (by simp [hl]), (h4 l (by simp)).1]
      omega
  refine ⟨A, c, by rw [hfl], by omega, h2', by omega, fun n hn => ?_, fun j n hj => ?_⟩
  · obtain ⟨l, hl, hnl⟩ := List.mem_flatten.1 hn
    exact (h4 l hl).2 n hnl
  · have hjl : j < cs.length := by have := (List.getElem?_eq_some_iff.1 hj).1; omega
    have hcj : cs[j]? = some cs[j] := List.getElem?_eq_getElem hjl
    have hf := flatC_at (k := 1) (i := 0) (fun l hl => (h4 l hl).1) hcj (by omega)
    rw [Nat.mul_one, Nat.add_zero, hj] at hf
    obtain ⟨b, o, ha, hc⟩ := h5 j _ hcj
    have := hc 0 n hf.symm
    rw [Nat.mul_one, Nat.add_zero] at this
    exact ⟨b, o, ha, this⟩
theorem sameCols_yes (v1 v2 : Value) (cs : List (List Int)) (w : World) (h1 : RdC w v1 cs) (h2 : RdC w v2 cs) : Calls Try.prog 16 #[v1, v2] w fun e w' => e = .returned (.bool true) ∧ Grows w w' :=
  sameInts_yes v1 v2 cs.flatten w h1.ints h2.ints
end Go.Proofs.Ytheijicdhfpidaa

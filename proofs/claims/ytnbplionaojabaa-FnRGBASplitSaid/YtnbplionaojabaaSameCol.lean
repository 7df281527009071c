/-
  Two lists of colors that read the same are told to be equal. Conditions: both arguments read as that list.
-/
import Derived.Test.YtnbplionaojabaaRows2
import Derived.Test.YtnbplionaojabaaSamePic
namespace Go.Proofs.Ytnbplionaojabaa
open Go.RowKit
set_option linter.unusedVariables false

/-- A slice that reads as a list of colors. -/
def RdC (w : World) (v : Value) (cs : List (List Int)) : Prop :=
  ∃ (A : Option Addr) (c : Nat), v = .slice A cs.length c ∧ cs.length ≤ c ∧ c ≤ 9223372036854775807 ∧ cs.length ≤ 4000000000000 ∧ (∀ l ∈ cs, l.length = 4 ∧ ∀ m ∈ l, -9223372036854775808 ≤ m ∧ m ≤ 9223372036854775807) ∧
    ∀ (j : Nat) (l : List Int), cs[j]? = some l → ∃ b o, A = some ⟨b, o, none⟩ ∧ ∀ (i : Nat) (m : Int), l[i]? = some m → w.cell? ⟨b, o + j * 4 + i, none⟩ = some (.int .i64 m)
theorem RdC.grows {w w' : World} {v : Value} {cs : List (List Int)} (h : RdC w v cs) (hg : Grows w w') : RdC w' v cs := by
  obtain ⟨A, c, h1, h2, h2', h3, h4, h5⟩ := h
  refine ⟨A, c, h1, h2, h2', h3, h4, fun j l hj => ?_⟩
  obtain ⟨b, o, ha, hc⟩ := h5 j l hj
  exact ⟨b, o, ha, fun i m hi => hg.cell_some (hc i m hi)⟩
theorem flatC_at {cs : List (List Int)} {k j i : Nat} {l : List Int} (hk : ∀ l ∈ cs, l.length = k) (h : cs[j]? = some l) (hi : i < k) : cs.flatten[j * k + i]? = l[i]? := by
  induction cs generalizing j with
  | nil => simp at h
  | cons l0 t ih =>
    rw [List.flatten_cons]
    have h0 : l0.length = k := hk l0 (by simp)
    cases j with
    | zero =>
      simp only [List.getElem?_cons_zero, Option.some.injEq] at h
      subst h
      rw [Nat.zero_mul, Nat.zero_add, List.getElem?_append_left (by omega)]
    | succ j =>
      have e2 : (j + 1) * k = j * k + k := Nat.succ_mul j k
      rw [List.getElem?_append_right (by omega), h0]
      have e : (j + 1) * k + i - k = j * k + i := by omega
      rw [e]
      exact ih (fun l hl => hk l (by simp [hl])) (by simpa using h)
theorem OwnC.rd {W w : World} {v : Value} {cs : List (List Int)} (h : OwnC W w v cs) (hl : cs.length ≤ 4000000000000) (hz : ∀ l ∈ cs, l.length = 4 ∧ ∀ m ∈ l, -9223372036854775808 ≤ m ∧ m ≤ 9223372036854775807) : RdC w v cs := by
  rcases h.1.2 with ⟨rfl, h0⟩ | ⟨g, cap, cur, rfl, hg, hh, hnc, hcm, hcs, hcur⟩
  · have e : cs = [] := List.eq_nil_of_length_eq_zero h0
    subst e
    exact ⟨none, 0, rfl, by simp, by omega, by simp, by simp, by simp⟩
  · unfold maxLen at hcm
    refine ⟨_, cap, rfl, hnc, hcm, hl, hz, fun j l hj => ⟨g, 0, rfl, fun i n hi => ?_⟩⟩
    have hlm := (hz l (List.mem_of_getElem? hj)).1
    have hik : i < 4 := by have := (List.getElem?_eq_some_iff.1 hi).1; omega
    have hc := h.1.cells (g := g) rfl (j * 4 + i) (.int .i64 n) (by rw [List.getElem?_map, flatC_at (fun l hl => (hz l hl).1) hj hik, hi]; rfl)
    have e : (⟨g, 0, none⟩ : Addr).add (j * 4 + i) = ⟨g, 0 + j * 4 + i, none⟩ := by unfold Addr.add; split <;> simp_all
    rw [e] at hc
    exact hc
theorem four_of {l : List Int} (h : l.length = 4) : ∃ p q r s, l = [p, q, r, s] := by
  match l, h with
  | [p, q, r, s], _ => exact ⟨p, q, r, s, rfl⟩
set_option maxHeartbeats 2000000 in
theorem sameCols_yes (v1 v2 : Value) (cs : List (List Int)) (w : World) (h1 : RdC w v1 cs) (h2 : RdC w v2 cs) : Calls Try.prog 16 #[v1, v2] w fun e w' => e = .returned (.bool true) ∧ Grows w w' := by
  obtain ⟨A1, c1, rfl, hc1, hm1, hl1, hz1, hr1⟩ := h1
  obtain ⟨A2, c2, rfl, hc2, hm2, hl2, hz2, hr2⟩ := h2
  have HR1 := Lib.hid hr1
  have HR2 := Lib.hid hr2
  have HZ := Lib.hid hz1
  clear hr1 hr2 hz1 hz2
  have hne : (((cs.length : Nat) : Int) != ((cs.length : Nat) : Int)) = false := by simp
  go_enter Try.func16, Try.ntmps16
  go_wp2
  go_loopw [5, 13] (fun _ i wr => ∃ k : Nat, k ≤ cs.length ∧ i = .int .i64 k ∧ Grows w wr) (fun _ i _ => cs.length - (intOf i).toNat)
  case atStart => exact ⟨0, Nat.zero_le _, rfl, Grows.rfl' _⟩
  case round =>
    obtain ⟨k, hk, rfl, hg⟩ := hrel
    by_cases hlt : k < cs.length
    · have he : cs[k]? = some cs[k] := List.getElem?_eq_getElem hlt
      obtain ⟨b1, o1, rfl, hcell1⟩ := HR1.out k _ he
      obtain ⟨b2, o2, rfl, hcell2⟩ := HR2.out k _ he
      obtain ⟨hl4, _⟩ := HZ.out _ (List.mem_of_getElem? he)
      clear he
      generalize cs[k] = l at *
      obtain ⟨p, q, r, s, rfl⟩ := four_of hl4
      have x0 := hg.cell_some (hcell1 0 _ rfl)
      have x1 := hg.cell_some (hcell1 1 _ rfl)
      have x2 := hg.cell_some (hcell1 2 _ rfl)
      have x3 := hg.cell_some (hcell1 3 _ rfl)
      have y0 := hg.cell_some (hcell2 0 _ rfl)
      have y1 := hg.cell_some (hcell2 1 _ rfl)
      have y2 := hg.cell_some (hcell2 2 _ rfl)
      have y3 := hg.cell_some (hcell2 3 _ rfl)
      simp only [Nat.add_zero] at x0 y0
      have n0 : (p != p) = false := by simp
      have n1 : (q != q) = false := by simp
      have n2 : (r != r) = false := by simp
      have n3 : (s != s) = false := by simp
      clear hcell1 hcell2 hl4
      go_wp2
      apply wp_region_lex_lit 9 (by kernel_rfl) (by kernel_rfl)
      iterate 9
        apply lex_pin
        · intro w2 hg2 _ K hK
          have x0' := hg2.cell_some x0
          have x1' := hg2.cell_some x1
          have x2' := hg2.cell_some x2
          have x3' := hg2.cell_some x3
          have y0' := hg2.cell_some y0
          have y1' := hg2.cell_some y1
          have y2' := hg2.cell_some y2
          have y3' := hg2.cell_some y3
          go_wp2
          exact hK _ (Grows.rfl' _)
        · kernel_rfl
      refine lex_end ?_
      intro w3 hg3 _
      have hg4 : Grows w w3 := hg.drew'.step hg3
      clear hg hg3 x0 x1 x2 x3 y0 y1 y2 y3
      go_wp2
      go_roundw
      case rel => exact ⟨k + 1, by omega, by go_num, hg4⟩
      case measure => simp [intOf]; omega
    · go_wp2
      go_ret
      exact ⟨rfl, hg⟩
end Go.Proofs.Ytnbplionaojabaa

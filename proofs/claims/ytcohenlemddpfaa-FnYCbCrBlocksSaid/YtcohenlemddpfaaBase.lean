/-
  Words for memory that the proofs of this seat share: a slice of integers that reads as a list; a block that is known whole; what growth keeps. No condition: plain definitions and lemmas.
-/
import Derived.Test.YtcohenlemddpfaaStab
import Derived.WalkSpells
import Derived.WalkLawsBesides
import Derived.Deep.LoopGhost
import Derived.Lib.Hide
import Derived.Outline
namespace Go.Proofs.Ytcohenlemddpfaa
open Go.RowKit

/-! ### What growth keeps -/
theorem Grows.cells {W w : World} (hb : Grows W w) : (∀ b o, b < W.heap.size → w.cell? ⟨b, o, none⟩ = W.cell? ⟨b, o, none⟩) ∧ (∀ b o, b < W.heap.size → w.frozen? ⟨b, o, none⟩ = W.frozen? ⟨b, o, none⟩) :=
  ⟨fun b o h => hb.cell (p := ⟨b, o, none⟩) h, fun b o h => hb.frozen (p := ⟨b, o, none⟩) h⟩

theorem cell_lt {w : World} {a : Addr} {v : Value} (h : w.cell? a = some v) : a.block < w.heap.size := by
  rcases Nat.lt_or_ge a.block w.heap.size with h1 | h1
  · exact h1
  · unfold World.cell? at h
    rw [Array.getElem?_eq_none h1] at h
    cases h

theorem Grows.cell_some {w w' : World} (hg : Grows w w') {a : Addr} {v : Value} (h : w.cell? a = some v) : w'.cell? a = some v := by
  rw [hg.cell (cell_lt h)]
  exact h

theorem Grows.drewN' {a b : World} (h : Grows a b) (n : Nat) : Grows a (b.drewN n) := ⟨h.os, h.tape, h.output, h.size, h.block⟩
theorem Grows.set' {a b : World} (h : Grows a b) {p : Addr} (hp : a.heap.size ≤ p.block) (u : Value) : Grows a (b.setCell p u) := Below.setCell h hp u
theorem Grows.grown' {a b c : World} {row : Option Nat} (h : Grows a b) (hg : b.grownBy c row) (hr : ∀ k, row = some k → a.heap.size ≤ k) : Grows a c := Below.grown h hg h.size hr

/-! ### A slice of integers that reads as a list -/
def Rd (kd : IntKind) (lo hi : Int) (w : World) (v : Value) (zs : List Int) : Prop :=
  ∃ (A : Option Addr) (c : Nat), v = .slice A zs.length c ∧ zs.length ≤ c ∧ c ≤ 9223372036854775807 ∧ zs.length ≤ 17592186044416 ∧ (∀ n ∈ zs, lo ≤ n ∧ n ≤ hi) ∧
    ∀ (j : Nat) (n : Int), zs[j]? = some n → ∃ b o, A = some ⟨b, o, none⟩ ∧ w.cell? ⟨b, o + j, none⟩ = some (.int kd n)

/-- of int -/
abbrev RdI (w : World) (v : Value) (zs : List Int) : Prop := Rd .i64 (-9223372036854775808) 9223372036854775807 w v zs
/-- of uint8 -/
abbrev RdB (w : World) (v : Value) (zs : List Int) : Prop := Rd .u8 0 255 w v zs

section
variable {kd : IntKind} {lo hi : Int} {w w' : World} {v : Value} {zs : List Int}
theorem Rd.grows (h : Rd kd lo hi w v zs) (hg : Grows w w') : Rd kd lo hi w' v zs := by
  obtain ⟨A, c, h1, h2, h2', h3, h4, h5⟩ := h
  refine ⟨A, c, h1, h2, h2', h3, h4, fun j n hj => ?_⟩
  obtain ⟨b, o, ha, hc⟩ := h5 j n hj
  exact ⟨b, o, ha, hg.cell_some hc⟩

theorem Rd.nil : Rd kd lo hi w (.slice none 0 0) [] := ⟨none, 0, rfl, by simp, by omega, by simp, by simp, by simp⟩

theorem Rd.of_own {base : Nat} {e : TypeId} {n : Nat} (h : w.ownsRow base e 1 v n (zs.map (Value.int kd))) (hl : zs.length ≤ 17592186044416) (hz : ∀ n ∈ zs, lo ≤ n ∧ n ≤ hi) : Rd kd lo hi w v zs := by
  have hn : n = zs.length := by have := h.1; simpa using this.symm
  subst hn
  rcases h.2 with ⟨rfl, h0⟩ | ⟨g, cap, cur, rfl, hg, hh, hnc, hcm, hcs, hcur⟩
  · have : zs = [] := List.eq_nil_of_length_eq_zero h0
    subst this
    exact Rd.nil
  · unfold maxLen at hcm
    refine ⟨_, cap, rfl, hnc, hcm, hl, hz, fun j n hj => ⟨g, 0, rfl, ?_⟩⟩
    have hc := h.cells (g := g) rfl j (.int kd n) (by simp [hj])
    have e : (⟨g, 0, none⟩ : Addr).add j = ⟨g, 0 + j, none⟩ := by unfold Addr.add; split <;> simp_all
    rw [e] at hc
    exact hc
end

/-- A cell of the block that was made last. -/
theorem cell_top {w : World} {cs : Array Value} {t : TypeId} {b i : Nat} {v : Value} (hb : b = w.heap.size) (hv : cs[i]? = some v) : (w.alloc (.cells cs t)).cell? ⟨b, i, none⟩ = some v := by
  subst hb
  unfold World.cell?
  rw [heap_alloc_new]
  simpa using hv
theorem frozen_top {w : World} {cs : Array Value} {t : TypeId} {b i : Nat} (hb : b = w.heap.size) : (w.alloc (.cells cs t)).frozen? ⟨b, i, none⟩ = false := by
  subst hb
  unfold World.frozen?
  rw [heap_alloc_new]
  simp

theorem ret_val {a b : Value} (h : a = b) : Ending.returned a = .returned b := by rw [h]
theorem ret_bool {a b : Bool} (h : a = b) : Ending.returned (.bool a) = .returned (.bool b) := by rw [h]
theorem ret_int {k : IntKind} {a b : Int} (h : a = b) : Ending.returned (.int k a) = .returned (.int k b) := by rw [h]
end Go.Proofs.Ytcohenlemddpfaa

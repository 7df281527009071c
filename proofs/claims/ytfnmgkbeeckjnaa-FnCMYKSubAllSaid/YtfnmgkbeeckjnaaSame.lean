/-
  laws.sameInts tells whether two slices of ints read as the same list; it writes nothing. Conditions: both arguments read as lists of ints.
-/
import Derived.Test.YtfnmgkbeeckjnaaRows
import Derived.Test.YtfnmgkbeeckjnaaBase
namespace Go.Proofs.Ytfnmgkbeeckjnaa
open Go.RowKit

theorem take_eq_succ {xs ys : List Int} {k : Nat} {a b : Int} (ha : xs[k]? = some a) (hb : ys[k]? = some b) (h : xs.take k = ys.take k) : (xs.take (k + 1) = ys.take (k + 1)) ↔ a = b := by
  rw [List.take_add_one, List.take_add_one, ha, hb, h]
  simp

set_option maxHeartbeats 400000 in
theorem sameInts_any (v1 v2 : Value) (xs ys : List Int) (w : World) (h1 : RdI w v1 xs) (h2 : RdI w v2 ys) :
    Calls Try.prog 19 #[v1, v2] w fun e w' => e = .returned (.bool (decide (xs = ys))) ∧ Grows w w' := by
  obtain ⟨A1, c1, rfl, hc1, hm1, hl1, hz1, hr1⟩ := h1
  obtain ⟨A2, c2, rfl, hc2, hm2, hl2, hz2, hr2⟩ := h2
  by_cases hlen : xs.length = ys.length
  · have HR1 := Lib.hid hr1
    have HR2 := Lib.hid hr2
    have HL := Lib.hid hlen
    clear hr1 hr2 hz1 hz2
    have hne : (((xs.length : Nat) : Int) != ((ys.length : Nat) : Int)) = false := by simp [hlen]
    clear hlen
    go_enter Try.func19, Try.ntmps19
    go_wp2
    go_loopw [5, 13] (fun _ i wr => ∃ k : Nat, k ≤ xs.length ∧ i = .int .i64 k ∧ xs.take k = ys.take k ∧ Grows w wr) (fun _ i _ => xs.length - (intOf i).toNat)
    case atStart => exact ⟨0, Nat.zero_le _, rfl, rfl, Grows.rfl' _⟩
    case round =>
      obtain ⟨k, hk, rfl, htake, hg⟩ := hrel
      have HT := Lib.hid htake
      clear htake
      by_cases hlt : k < xs.length
      · have hlt2 : k < ys.length := by rw [← HL.out]; exact hlt
        obtain ⟨b1, o1, rfl, hcell1⟩ := HR1.out k xs[k] (List.getElem?_eq_getElem hlt)
        obtain ⟨b2, o2, rfl, hcell2⟩ := HR2.out k ys[k] (List.getElem?_eq_getElem hlt2)
        have g1 := hg.cell_some hcell1
        have g2 := hg.cell_some hcell2
        clear hcell1 hcell2
        have he1 : xs[k]? = some xs[k] := List.getElem?_eq_getElem hlt
        have he2 : ys[k]? = some ys[k] := List.getElem?_eq_getElem hlt2
        have HS := Lib.hid (take_eq_succ he1 he2 HT.out)
        clear he1 he2
        generalize xs[k] = a at *
        generalize ys[k] = b at *
        go_wp2
        apply wp_region_lex_lit 9 (by kernel_rfl) (by kernel_rfl)
        iterate 9
          apply lex_pin
          · intro w2 hg2 _ K hK
            have e1 := hg2.cells.1
            have g1' := hg2.cell_some g1
            have g2' := hg2.cell_some g2
            clear e1
            go_wp2
            exact hK _ (Grows.rfl' _)
          · kernel_rfl
        refine lex_end ?_
        intro w3 hg3 _
        have hg4 : Grows w w3 := hg.drew'.step hg3
        clear hg hg3
        by_cases hab : a = b
        · have hb : (a != b) = false := by simp [hab]
          have HX := Lib.hid (HS.out.2 hab)
          clear hab
          go_wp2
          go_roundw
          case rel => exact ⟨k + 1, by omega, by go_num, HX.out, hg4⟩
          case measure => simp [intOf]; omega
        · have hb : (a != b) = true := by simp [hab]
          have HX : Hid (¬ xs = ys) := fun e => hab (HS.out.1 (by rw [e]))
          clear hab
          go_wp2
          go_ret
          exact ⟨ret_bool (by simp [HX.out]), hg4⟩
      · have HX : Hid (xs = ys) := by
          have h1 := HT.out
          have h2 := HL.out
          rw [List.take_of_length_le (by omega), List.take_of_length_le (by omega)] at h1
          exact h1
        go_wp2
        go_ret
        exact ⟨ret_bool (by simp [HX.out]), hg⟩
  · have HX : Hid (¬ xs = ys) := fun e => hlen (by rw [e])
    have hne : (((xs.length : Nat) : Int) != ((ys.length : Nat) : Int)) = true := by simp; omega
    clear hlen hr1 hr2 hz1 hz2
    go_enter Try.func19, Try.ntmps19
    go_wp2
    go_ret
    exact ⟨ret_bool (by simp [HX.out]), Grows.rfl' _⟩
end Go.Proofs.Ytfnmgkbeeckjnaa

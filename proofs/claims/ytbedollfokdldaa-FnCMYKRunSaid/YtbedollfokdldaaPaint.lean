/-
  Contracts of the reference's paint and of its CMYKWrite. Conditions stand in each theorem.
-/
import Derived.Test.YtbedollfokdldaaPutF
import Derived.Test.YtbedollfokdldaaSamePic
namespace Go.Proofs.Ytbedollfokdldaa
open Go.RowKit
set_option linter.unusedVariables false

/-- The first j numbers are painted. -/
theorem paint_step {f : Nat → Int} {i j : Nat} {bs : List Int} {z : Int} (hz : bs[j]? = some z) (q : Nat) : (if q = i + j then z % 256 else putF f i ((bs.take j).map (· % 256)) q) = putF f i ((bs.take (j + 1)).map (· % 256)) q := by
  have hj : j < bs.length := (List.getElem?_eq_some_iff.1 hz).1
  have hl1 : ((bs.take j).map (· % 256)).length = j := by simp; omega
  have hl2 : ((bs.take (j + 1)).map (· % 256)).length = j + 1 := by simp; omega
  unfold putF
  rw [hl1, hl2]
  by_cases hq : q = i + j
  · subst hq
    rw [if_pos rfl, if_pos (by omega), List.getD_eq_getElem?_getD, List.getElem?_map, List.getElem?_take_of_lt (by omega)]
    have e : i + j - i = j := by omega
    rw [e, hz]
    rfl
  · rw [if_neg hq]
    by_cases h1 : i ≤ q ∧ q < i + j
    · rw [if_pos h1, if_pos (by omega), List.getD_eq_getElem?_getD, List.getD_eq_getElem?_getD, List.getElem?_map, List.getElem?_map, List.getElem?_take_of_lt (by omega), List.getElem?_take_of_lt (by omega)]
    · rw [if_neg h1, if_neg (by omega)]

set_option maxHeartbeats 2000000 in
theorem paint_in (g n i cc bb : Nat) (f : Nat → Int) (a b c d st a' b' c' d' x y : Int) (bs : List Int) (w : World) (hix : Ix w g n f) (hin : Inn a' b' c' d' x y) (hcl : ∀ (j : Nat) (m : Int), bs[j]? = some m → w.cell? ⟨bb, j, none⟩ = some (.int .i64 m)) (hne : bb ≠ g)
    (h1 : 0 ≤ y - b) (h2 : y - b ≤ 1000) (h3 : 0 ≤ x - a) (h4 : x - a ≤ 1000) (h5 : 0 ≤ st) (h6 : st ≤ 4000) (h8 : bs.length ≤ 4) (hi : (y - b) * st + (x - a) * bs.length = (i : Int)) (hil : i + bs.length ≤ n) (hn : n ≤ 17592186044416) :
    Calls Try.prog 49 #[.agg #[.int .i64 a, .int .i64 b, .int .i64 c, .int .i64 d, .int .i64 st, .slice (some ⟨g, 0, none⟩) n n], box4 a' b' c' d', .int .i64 x, .int .i64 y, .slice (some ⟨bb, 0, none⟩) bs.length cc] w
      fun e w' => e = .returned (.tuple #[]) ∧ Ix w' g n (putF f i (bs.map (· % 256))) ∧ w.grownBy w' (some g) := by
  have HC := Lib.hid hcl
  have HIX := Lib.hid hix
  have HE := Lib.hid hi
  have HIN := Lib.hid hin
  have hgl : g < w.heap.size := hix.lt
  clear hcl hix hi hin
  go_enter Try.func49, Try.ntmps49
  go_wp2_with fail
  refine (specHas_yes _ _ _ _ _ _ _ HIN.out).mono ?_
  rintro e w1 ⟨rfl, hg1⟩
  obtain ⟨hcq, _⟩ := hg1.cells
  have HG1 := Lib.hid hg1
  have hsz1 : w.heap.size + 1 < w1.heap.size := by have := hg1.size; simp at this; omega
  clear hg1
  go_wp2_with fail
  refine (place_any _ _ _ _ _ _ _ _ _ h1 h2 h3 h4 h5 h6 (by omega) (by omega)).mono ?_
  rintro e w2 ⟨rfl, hg2⟩
  rw [HE.out]
  have hgb := HG1.out.step hg2
  have HGW : Hid (Grows w w2) := ((((Grows.rfl' w).alloc' _).alloc' _).step HG1.out).step hg2
  have q2 : w2.cell? ⟨w.heap.size, 5, none⟩ = some (.slice (some ⟨g, 0, none⟩) n n) := hgb.cell_some (by simp)
  clear hg2 hgb hcq
  go_wp2_with fail
  go_loopw [11, 12, 29] (fun _ _ k wr => ∃ j : Nat, j ≤ bs.length ∧ k = .int .i64 j ∧ Ix wr g n (putF f i ((bs.take j).map (· % 256))) ∧ w2.grownBy wr (some g)) (fun _ _ k _ => bs.length - (intOf k).toNat)
  case atStart =>
    refine ⟨0, Nat.zero_le _, rfl, (HIX.out.grows HGW.out).congr (fun q _ => ?_), World.grownBy.refl _ _⟩
    unfold putF
    rw [if_neg (by simp)]
  case round =>
    obtain ⟨j, hj, rfl, hix, hgr⟩ := hrel
    by_cases hlt : j < bs.length
    · have he : bs[j]? = some bs[j] := List.getElem?_eq_getElem hlt
      have hcell : wr.cell? ⟨bb, j, none⟩ = some (.int .i64 bs[j]) := (World.cell?_of_block (hgr.block bb (cell_lt (HGW.out.cell_some (HC.out j _ he))) (fun e => hne (by simpa using e)))).trans (HGW.out.cell_some (HC.out j _ he))
      have q3 : wr.cell? ⟨w.heap.size, 5, none⟩ = some (.slice (some ⟨g, 0, none⟩) n n) := (World.cell?_of_block (hgr.block w.heap.size (cell_lt q2) (fun e => by simp at e; omega))).trans q2
      have hfz := hix.frozen (i + j)
      have hcp := hix.cell (i := i + j) (by omega)
      have HIX2 : Hid (∀ W, Ix W g n (putF f i ((bs.take j).map (· % 256))) → Ix (W.setCell ⟨g, i + j, none⟩ (.int .i64 (bs[j] % 256))) g n (putF f i ((bs.take (j + 1)).map (· % 256)))) := fun W hW => (hW.set (i + j) _).congr (fun q _ => paint_step he q)
      have HIXW := Lib.hid hix
      have HGR := Lib.hid hgr
      have hb1 : decide ((j : Int) < bs.length) = true := by simp; omega
      clear hix hgr he
      generalize putF f i ((bs.take j).map (· % 256)) (i + j) = u0 at *
      generalize bs[j] = z at *
      go_wp2_with fail
      apply wp_region_lex_lit 8 (by kernel_rfl) (by kernel_rfl)
      iterate 8
        apply lex_pin
        · intro wq hgq hdq Kq hKq
          have q4 := hgq.cell_some q3
          go_wp2_with ((go_at_call 54; refine (slow_g _ _).mono ?_); rintro e wq' ⟨rfl, hgq'⟩)
          first | exact hKq _ (Grows.rfl' _) | exact hKq _ hgq'
        · kernel_rfl
      refine lex_end ?_
      intro w3 hg3 _
      have HIX3 := Lib.hid (HIXW.out.grows ((Grows.rfl' _).drew'.step hg3))
      have hfz3 := HIX3.out.frozen (i + j)
      have hcp3 : w3.cell? ⟨g, i + j, none⟩ = some (.int .i64 u0) := hg3.cell_some hcp
      have HGR3 : Hid (w2.grownBy w3 (some g)) := grown_step HGR.out (grown_of ((Grows.rfl' _).drew'.step hg3))
      clear hg3
      go_wp2_with fail
      go_roundw
      case rel => exact ⟨j + 1, by omega, by go_num, HIX2.out _ HIX3.out, only_set HGR3.out _ _⟩
      case measure => simp [intOf]; omega
    · have hb1 : decide ((j : Int) < bs.length) = false := by simp; omega
      have HT : Hid (bs.take j = bs) := List.take_of_length_le (by omega)
      have HIXW := Lib.hid hix
      clear hix
      go_wp2_with fail
      go_end0
      refine ⟨rfl, ?_, grown_step (grown_of HGW.out) hgr⟩
      have := HIXW.out
      rw [HT.out] at this
      exact this

set_option maxHeartbeats 1000000 in
theorem paint_out (v : Value) (a b c d st a' b' c' d' x y : Int) (A : Option Addr) (n m : Nat) (w : World) (hin : ¬ Inn a' b' c' d' x y) :
    Calls Try.prog 49 #[.agg #[.int .i64 a, .int .i64 b, .int .i64 c, .int .i64 d, .int .i64 st, .slice A n m], box4 a' b' c' d', .int .i64 x, .int .i64 y, v] w fun e w' => e = .returned (.tuple #[]) ∧ Grows w w' := by
  have HIN := Lib.hid hin
  clear hin
  go_enter Try.func49, Try.ntmps49
  go_wp2_with fail
  refine (specHas_no _ _ _ _ _ _ _ HIN.out).mono ?_
  rintro e w1 ⟨rfl, hg1⟩
  have HG1 : Hid (Grows w w1) := (((Grows.rfl' w).alloc' _).alloc' _).step hg1
  clear hg1
  go_wp2_with fail
  (try simp only [Exit.inBlock, Exit.then])
  refine bodyPost_ret (results_none rfl _ _ _) rfl ?_
  exact ⟨rfl, HG1.out⟩

theorem paint_any (g n cc bb k : Nat) (f : Nat → Int) (a b c d x y : Int) (bs : List Int) (w : World) (hf : Fine a b c d) (hb : bs.length = k) (hk : k ≤ 4) (hn : n = total a b c d k) (hix : Ix w g n f)
    (hcl : ∀ (j : Nat) (m : Int), bs[j]? = some m → w.cell? ⟨bb, j, none⟩ = some (.int .i64 m)) (hne : bb ≠ g) :
    Calls Try.prog 49 #[.agg #[.int .i64 a, .int .i64 b, .int .i64 c, .int .i64 d, .int .i64 (sd a c k), .slice (some ⟨g, 0, none⟩) n n], box4 a b c d, .int .i64 x, .int .i64 y, .slice (some ⟨bb, 0, none⟩) k cc] w
      fun e w' => e = .returned (.tuple #[]) ∧ Ix w' g n (wr a b c d k f x y (bs.map (· % 256))) ∧ w.grownBy w' (some g) := by
  subst hb hn
  have htl := total_le hk hf
  have hsd := sd_in hk hf
  by_cases hin : Inn a b c d x y
  · obtain ⟨i, hi, hil⟩ := inside_at hf hk hin
    rw [wr_in hin hi]
    obtain ⟨_, _, ⟨f5, f6⟩, ⟨f7, f8⟩⟩ := hf
    obtain ⟨i1, i2, i3, i4⟩ := hin
    exact paint_in g _ i cc bb f a b c d _ a b c d x y bs w hix ⟨i1, i2, i3, i4⟩ hcl hne (by omega) (by omega) (by omega) (by omega) (by omega) (by omega) hk hi hil (by omega)
  · rw [wr_out hin]
    refine (paint_out _ _ _ _ _ _ _ _ _ _ _ _ _ _ _ _ hin).mono ?_
    rintro e w' ⟨rfl, hg⟩
    exact ⟨rfl, hix.grows hg, grown_of hg⟩

end Go.Proofs.Ytbedollfokdldaa

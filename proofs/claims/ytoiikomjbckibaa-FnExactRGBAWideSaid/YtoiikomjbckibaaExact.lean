/-
  The contracts of eqIntS, markIntS and heldIntS at slices of four ints, and of the reference's AlphaWide and RGBAWide. Conditions stand in each theorem.
-/
import Derived.Test.YtoiikomjbckibaaFull
namespace Go.Proofs.Ytoiikomjbckibaa
open Go.RowKit

set_option maxHeartbeats 400000 in
theorem eqIntS_any (v1 v2 : Value) (xs ys : List Int) (w : World) (h1 : RdI w v1 xs) (h2 : RdI w v2 ys) :
    Calls Try.prog 13 #[v1, v2] w fun e w' => e = .returned (.bool (decide (xs = ys))) ∧ Grows w w' := by
  obtain ⟨A1, c1, rfl, hc1, hm1, hl1, hz1, hr1⟩ := h1
  obtain ⟨A2, c2, rfl, hc2, hm2, hl2, hz2, hr2⟩ := h2
  by_cases hlen : xs.length = ys.length
  · have HR1 := Lib.hid hr1
    have HR2 := Lib.hid hr2
    have HL := Lib.hid hlen
    clear hr1 hr2 hz1 hz2
    have hne : (((xs.length : Nat) : Int) != ((ys.length : Nat) : Int)) = false := by simp [hlen]
    clear hlen
    go_enter Try.func13, Try.ntmps13
    go_wp2
    go_loopw [5] (fun i wr => ∃ k : Nat, k ≤ xs.length ∧ i = .int .i64 k ∧ xs.take k = ys.take k ∧ Grows w wr) (fun i _ => xs.length - (intOf i).toNat)
    case atStart => exact ⟨0, Nat.zero_le _, rfl, rfl, Grows.rfl' _⟩
    case round =>
      obtain ⟨k, hk, rfl, htake, hg⟩ := hrel
      have HT := Lib.hid htake
      clear htake
      by_cases hlt : k < xs.length
      · have hlt2 : k < ys.length := by rw [← HL.out]; exact hlt
        obtain ⟨b1, o1, rfl, hcell1⟩ := HR1.out k xs[k] (List.getElem?_eq_getElem hlt)
        obtain ⟨b2, o2, rfl, hcell2⟩ := HR2.out k ys[k] (List.getElem?_eq_getElem hlt2)
        have g1 := hg.cell_some hcell1
        have g2 := hg.cell_some hcell2
        clear hcell1 hcell2
        have he1 : xs[k]? = some xs[k] := List.getElem?_eq_getElem hlt
        have he2 : ys[k]? = some ys[k] := List.getElem?_eq_getElem hlt2
        have HS := Lib.hid (take_eq_succ he1 he2 HT.out)
        clear he1 he2
        generalize xs[k] = a at *
        generalize ys[k] = b at *
        go_wp2
        apply wp_region_lex_lit (by kernel_rfl) (by kernel_rfl)
        iterate 9
          apply lex_pin
          · intro wq hgq hdq Kq hKq
            have g1' := hgq.cell_some g1
            have g2' := hgq.cell_some g2
            go_wp2
            exact hKq _ (Grows.rfl' _)
          · kernel_rfl
        refine lex_end ?_
        intro w3 hg3 _
        have hg4 : Grows w w3 := hg.drew'.step hg3
        clear hg hg3
        by_cases hab : a = b
        · have hb : (a != b) = false := by simp [hab]
          have HX := Lib.hid (HS.out.2 hab)
          clear hab
          go_wp2
          go_roundw
          case rel => exact ⟨k + 1, by omega, by go_num, HX.out, hg4⟩
          case measure => simp [intOf]; omega
        · have hb : (a != b) = true := by simp [hab]
          have HX : Hid (¬ xs = ys) := fun e => hab (HS.out.1 (by rw [e]))
          clear hab
          go_wp2
          go_ret
          exact ⟨ret_bool (by simp [HX.out]), hg4⟩
      · have HX : Hid (xs = ys) := by
          have h1 := HT.out
          have h2 := HL.out
          rw [List.take_of_length_le (by omega), List.take_of_length_le (by omega)] at h1
          exact h1
        go_wp2
        go_ret
        exact ⟨ret_bool (by simp [HX.out]), hg⟩
  · have HX : Hid (¬ xs = ys) := fun e => hlen (by rw [e])
    have hne : (((xs.length : Nat) : Int) != ((ys.length : Nat) : Int)) = true := by simp; omega
    clear hlen hr1 hr2 hz1 hz2
    go_enter Try.func13, Try.ntmps13
    go_wp2
    go_ret
    exact ⟨ret_bool (by simp [HX.out]), Grows.rfl' _⟩

theorem eqIntS_yes (v1 v2 : Value) (xs : List Int) (w : World) (h1 : RdI w v1 xs) (h2 : RdI w v2 xs) :
    Calls Try.prog 13 #[v1, v2] w fun e w' => e = .returned (.bool true) ∧ Grows w w' :=
  (eqIntS_any v1 v2 xs xs w h1 h2).mono fun _ _ ⟨he, hg⟩ => ⟨by rw [he]; simp, hg⟩

/-- A block of four ints, the first k of them marked. -/
def mk4 (a b c d : Int) (k : Nat) : Array Value := #[.int .i64 (if 0 < k then 1 else a), .int .i64 (if 1 < k then 2 else b), .int .i64 (if 2 < k then 3 else c), .int .i64 (if 3 < k then 4 else d)]

theorem mk4_set (a b c d : Int) {k : Nat} (hk : k < 4) : (mk4 a b c d k).setIfInBounds k (.int .i64 (k + 1)) = mk4 a b c d (k + 1) := by
  rcases k with _ | _ | _ | _ | k
  · rfl
  · rfl
  · rfl
  · rfl
  · omega

theorem mk4_cell (a b c d : Int) {k : Nat} (hk : k < 4) : ∃ n : Int, (mk4 a b c d k)[k]? = some (.int .i64 n) := by
  rcases k with _ | _ | _ | _ | k
  · exact ⟨_, rfl⟩
  · exact ⟨_, rfl⟩
  · exact ⟨_, rfl⟩
  · exact ⟨_, rfl⟩
  · omega

set_option maxHeartbeats 400000 in
theorem mark_any (g : Nat) (a b c d : Int) (w : World) (h : w.heap[g]? = some (.cells #[.int .i64 a, .int .i64 b, .int .i64 c, .int .i64 d] 3 (0, 0))) :
    Calls Try.prog 14 #[.slice (some ⟨g, 0, none⟩) 4 4, .int .i64 1] w fun e w' => e = .returned (.int .i64 5) ∧ w'.heap[g]? = some (.cells #[.int .i64 1, .int .i64 2, .int .i64 3, .int .i64 4] 3 (0, 0)) ∧ w.grownBy w' (some g) := by
  have HB : Hid (w.heap[g]? = some (.cells (mk4 a b c d 0) 3 (0, 0))) := h
  clear h
  go_enter Try.func14, Try.ntmps14
  go_wp2
  go_loopw [1, 5] (fun q i wr => ∃ k : Nat, k ≤ 4 ∧ i = .int .i64 k ∧ q = .int .i64 ((k : Int) + 1) ∧ wr.heap[g]? = some (.cells (mk4 a b c d k) 3 (0, 0)) ∧ w.grownBy wr (some g)) (fun _ i _ => 4 - (intOf i).toNat)
  case atStart => exact ⟨0, by omega, rfl, rfl, HB.out, World.grownBy.refl _ _⟩
  case round =>
    obtain ⟨k, hk, rfl, rfl, hb, hg⟩ := hrel
    by_cases hlt : k < 4
    · obtain ⟨n, hn⟩ := mk4_cell a b c d hlt
      have hcell : wr.cell? ⟨g, k, none⟩ = some (.int .i64 n) := by unfold World.cell?; rw [hb]; exact hn
      have hfr : wr.frozen? ⟨g, k, none⟩ = false := by unfold World.frozen?; rw [hb]; simp
      have HB2 : Hid ((wr.setCell ⟨g, k, none⟩ (.int .i64 ((k : Int) + 1))).heap[g]? = some (.cells (mk4 a b c d (k + 1)) 3 (0, 0))) := by
        unfold Hid World.setCell
        simp only [Array.getElem?_modify, hb, if_true, Option.map_some]
        rw [← mk4_set a b c d hlt]
        rfl
      have HG2 : Hid (w.grownBy (wr.setCell ⟨g, k, none⟩ (.int .i64 ((k : Int) + 1))) (some g)) :=
        ⟨hg.os, hg.tape, hg.output, by simpa [World.setCell] using hg.size, fun i hi hne => (Below.heap_setCell wr ⟨g, k, none⟩ _ i (by intro e; subst e; exact hne rfl)).trans (hg.block i hi hne)⟩
      clear hb hg hn
      have hb3 : decide ((k : Int) < 4) = true := by simp; omega
      go_wp2
      go_roundw
      case rel => exact ⟨k + 1, by omega, by go_num, by go_num, HB2.out, HG2.out⟩
      case measure => simp [intOf]; omega
    · have hk4 : k = 4 := by omega
      subst hk4
      have HB2 := Lib.hid hb
      clear hb
      go_wp2
      go_ret
      exact ⟨rfl, HB2.out, hg⟩

set_option maxHeartbeats 400000 in
theorem held_any (g : Nat) (w : World) (h : w.heap[g]? = some (.cells #[.int .i64 1, .int .i64 2, .int .i64 3, .int .i64 4] 3 (0, 0))) :
    Calls Try.prog 15 #[.slice (some ⟨g, 0, none⟩) 4 4, .int .i64 1] w fun e w' => e = .returned (.int .i64 5) ∧ w = w' := by
  have HC : ∀ k : Nat, k < 4 → w.cell? ⟨g, k, none⟩ = some (.int .i64 ((k : Int) + 1)) := by
    intro k hk
    unfold World.cell?
    rw [h]
    rcases k with _ | _ | _ | _ | k
    · rfl
    · rfl
    · rfl
    · rfl
    · omega
  have HH := Lib.hid HC
  clear HC h
  go_enter Try.func15, Try.ntmps15
  go_wp2
  go_loop [1, 5] (fun q i => ∃ k : Nat, k ≤ 4 ∧ i = .int .i64 k ∧ q = .int .i64 ((k : Int) + 1)) (fun _ i => 4 - (intOf i).toNat)
  case atStart => exact ⟨0, by omega, rfl, rfl⟩
  case round =>
    obtain ⟨k, hk, rfl, rfl⟩ := hrel
    by_cases hlt : k < 4
    · have hcell := HH.out k hlt
      have hb3 : decide ((k : Int) < 4) = true := by simp; omega
      have hne : ((k : Int) + 1 != (k : Int) + 1) = false := by simp
      go_wp2
      go_round
      case rel => exact ⟨k + 1, by omega, by go_num, by go_num⟩
      case measure => simp [intOf]; omega
    · have hk4 : k = 4 := by omega
      subst hk4
      go_wp2
      go_ret
      exact ⟨rfl, rfl⟩

set_option maxHeartbeats 400000 in
theorem specAlphaWide_any (n : Int) (w : World) :
    Calls Try.prog 11 #[.int .i64 n] w (Quad (n % 256 * 257) (n % 256 * 257) (n % 256 * 257) (n % 256 * 257) w) := by
  have hm := mod256 n
  go_enter Try.func11, Try.ntmps11
  go_wp2_with (go_at_call 24; refine (slow_any _ _).mono ?_; rintro e w' ⟨rfl, rfl⟩)
  go_ret
  exact ⟨w.heap.size, rfl, Nat.le_refl _, heap_alloc_new _ _, (Grows.rfl' _).alloc' _⟩

set_option maxHeartbeats 1000000 in
theorem specRGBAWide_any (a b c d : Int) (w : World) :
    Calls Try.prog 21 #[.agg #[.int .i64 a, .int .i64 b, .int .i64 c, .int .i64 d]] w (Quad (a % 256 * 257) (b % 256 * 257) (c % 256 * 257) (d % 256 * 257) w) := by
  have ha := mod256 a
  have hb := mod256 b
  have hc := mod256 c
  have hd := mod256 d
  go_enter Try.func21, Try.ntmps21
  go_wp2_with fail
  apply wp_region_lex_lit (by kernel_rfl) (by kernel_rfl)
  iterate 16
    apply lex_pin
    · intro wq hgq hdq Kq hKq
      obtain ⟨hcq, _⟩ := hgq.cells
      go_wp2_with (go_at_call 24; refine (slow_g _ _).mono ?_; rintro e wq' ⟨rfl, hgq'⟩)
      first | exact hKq _ (Grows.rfl' _) | exact hKq _ hgq'
    · kernel_rfl
  apply lex_any (fun v wx => Four (a % 256 * 257) (b % 256 * 257) (c % 256 * 257) (d % 256 * 257) v wx ∧ ∃ g, v.ownBlock = some g ∧ w.heap.size ≤ g) (fun v w w' hg h => ⟨Four.keep v w w' hg h.1, h.2⟩)
  · intro wq hgq hdq Kq hKq
    have hsz : w.heap.size ≤ wq.heap.size := by have := hgq.size; simp at this; omega
    go_wp2
    exact hKq _ _ ((Grows.rfl' _).alloc' _) ⟨⟨wq.heap.size, rfl, heap_alloc_new _ _⟩, wq.heap.size, rfl, hsz⟩
  intro v19
  simp only [Act.put, List.setIfInBounds_toArray, List.set_cons_succ, List.set_cons_zero]
  apply lex_any (fun v wx => Four (a % 256 * 257) (b % 256 * 257) (c % 256 * 257) (d % 256 * 257) v wx ∧ ∃ g, v.ownBlock = some g ∧ w.heap.size ≤ g) (fun v w w' hg h => ⟨Four.keep v w w' hg h.1, h.2⟩)
  · intro wq hgq hdq Kq hKq
    have HF := Lib.hid (hdq 16 _ rfl (by kernel_rfl))
    clear hdq
    go_wp2
    exact hKq _ _ (Grows.rfl' _) HF.out
  intro v2
  simp only [Act.put, List.setIfInBounds_toArray, List.set_cons_succ, List.set_cons_zero]
  refine lex_end ?_
  intro w3 hg3 hd3
  obtain ⟨⟨g, rfl, hg⟩, g', hgg, hge⟩ := hd3 17 _ rfl
  have e1 : g = g' := by simpa [Value.ownBlock] using hgg
  subst e1
  clear hd3 hgg
  have HG : Hid (Grows w w3) := ((Grows.rfl' w).alloc' _).drew'.step hg3
  clear hg3
  have HB := Lib.hid hg
  clear hg
  go_wp2
  go_ret
  exact ⟨g, rfl, hge, HB.out, HG.out⟩
end Go.Proofs.Ytoiikomjbckibaa

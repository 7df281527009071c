/-
  Contracts of image.RGBA's Opaque, of the thin package's and of the reference's RGBAOpaque. Conditions: the rectangle is fine, the numbers read as a list.
-/
import Derived.Test.YtilpoogcdhcmeaaNew
import Derived.Test.YtilpoogcdhcmeaaSamePic
namespace Go.Proofs.Ytilpoogcdhcmeaa
open Go.RowKit
set_option linter.unusedVariables false

/-- The last byte of each pixel is 255. -/
def opq (k n : Nat) (f : Nat → Int) : Bool := (List.range n).all fun i => (i % k != k - 1) || f i == 255
theorem opq_yes {k n : Nat} {f : Nat → Int} (h : ∀ i, i < n → i % k = k - 1 → f i = 255) : opq k n f = true := by
  unfold opq
  rw [List.all_eq_true]
  intro i hi
  rw [List.mem_range] at hi
  by_cases h1 : i % k = k - 1
  · simp [h i hi h1]
  · simp [h1]
theorem opq_no {k n i : Nat} {f : Nat → Int} (hi : i < n) (h1 : i % k = k - 1) (h2 : f i ≠ 255) : opq k n f = false := by
  cases h : opq k n f with
  | false => rfl
  | true =>
    unfold opq at h
    rw [List.all_eq_true] at h
    have := h i (List.mem_range.2 hi)
    simp [h1, h2] at this

theorem total_rows {a b c d : Int} (k : Nat) (h : Fine a b c d) : total a b c d k = (d - b).toNat * ((c - a).toNat * k) := by
  have ht := total_eq k h
  obtain ⟨_, _, ⟨f5, f6⟩, ⟨f7, f8⟩⟩ := h
  have e1 : ((c - a).toNat : Int) = c - a := by omega
  have e2 : ((d - b).toNat : Int) = d - b := by omega
  have e3 : (((d - b).toNat * ((c - a).toNat * k) : Nat) : Int) = (d - b) * ((c - a) * k) := by
    rw [Int.natCast_mul, Int.natCast_mul, e1, e2]
  have e4 : (d - b) * ((c - a) * (k : Int)) = (c - a) * (d - b) * (k : Int) := by rw [← Int.mul_assoc, Int.mul_comm (d - b) (c - a)]
  omega

set_option maxHeartbeats 1000000 in
theorem empty_no (a b c d : Int) (w : World) (h1 : a < c) (h2 : b < d) : Calls Try.prog 46 #[box4 a b c d] w fun e w' => e = .returned (.bool false) ∧ Grows w w' := by
  have t1 : decide (c ≤ a) = false := decide_eq_false (by omega)
  have t2 : decide (d ≤ b) = false := decide_eq_false (by omega)
  go_enter Try.func46, Try.ntmps46
  go_wp2
  go_ret
  exact ⟨by first | rfl | exact ret_bool (by simp; omega), (Grows.rfl' _).alloc' _⟩

set_option maxHeartbeats 1000000 in
theorem empty_yes (a b c d : Int) (w : World) (h : c ≤ a ∨ d ≤ b) : Calls Try.prog 46 #[box4 a b c d] w fun e w' => e = .returned (.bool true) ∧ Grows w w' := by
  have h' : c ≤ a ∨ (a < c ∧ d ≤ b) := by omega
  clear h
  rcases h' with h1 | ⟨h1, h2⟩
  all_goals
    (try first | (have t1 : decide (c ≤ a) = true := decide_eq_true (by omega)) | (have t1 : decide (c ≤ a) = false := decide_eq_false (by omega)))
    (try first | (have t2 : decide (d ≤ b) = true := decide_eq_true (by omega)) | (have t2 : decide (d ≤ b) = false := decide_eq_false (by omega)))
    go_enter Try.func46, Try.ntmps46
    go_wp2
    go_ret
    exact ⟨by first | rfl | exact ret_bool (by simp; omega), (Grows.rfl' _).alloc' _⟩

set_option maxHeartbeats 2000000 in
theorem opaque_any (ib pb : Nat) (f : Nat → Int) (a b c d : Int) (w : World) (hf : Fine a b c d) (hI : ImgAt w ib (.slice (some ⟨pb, 0, none⟩) (total a b c d 4) (total a b c d 4)) (sd a c 4) a b c d) (hP : Px w pb (total a b c d 4) f) :
    Calls Try.prog 33 #[.pointer (some ⟨ib, 0, none⟩)] w fun e w' => e = .returned (.bool (opq 4 (total a b c d 4) f)) ∧ Grows w w' := by
  have hrows := total_rows 4 hf
  have htl := total_le (k := 4) (by omega) hf
  have hS : sd a c 4 = (((c - a).toNat * 4 : Nat) : Int) := by
    obtain ⟨_, _, ⟨f5, f6⟩, _⟩ := hf
    unfold sd
    rw [Int.natCast_mul]
    omega
  rw [hS] at hI
  obtain ⟨⟨f1, f2⟩, ⟨f3, f4⟩, ⟨f5, f6⟩, ⟨f7, f8⟩⟩ := hf
  by_cases hne : a < c ∧ b < d
  · obtain ⟨hac, hbd⟩ := hne
    have HI := Lib.hid hI
    have HP := Lib.hid hP
    have HO : Hid ((∀ i, i < (d - b).toNat * ((c - a).toNat * 4) → i % 4 = 4 - 1 → f i = 255) → opq 4 (total a b c d 4) f = true) := fun h => opq_yes (by rw [hrows]; exact h)
    have HN : Hid (∀ i, i < total a b c d 4 → i % 4 = 4 - 1 → f i ≠ 255 → opq 4 (total a b c d 4) f = false) := fun i h1 h2 h3 => opq_no h1 h2 h3
    generalize opq 4 (total a b c d 4) f = res at *
    have HRW := Lib.hid hrows
    obtain ⟨q0, q1, q2, q3, q4, q5⟩ := hI.cells
    clear hrows hS hI hP
    generalize total a b c d 4 = n at *
    have hW : ((c - a).toNat : Int) = c - a := by omega
    have hH : ((d - b).toNat : Int) = d - b := by omega
    generalize (c - a).toNat = W at *
    generalize (d - b).toNat = H at *
    have hWl : W ≤ 1000 := by omega
    have HW := Lib.hid hW
    have HH := Lib.hid hH
    clear hW hH
    have hlt : ib < w.heap.size := cell_lt q0
    go_enter Try.func33, Try.ntmps33
    go_wp2_with fail
    refine (empty_no _ _ _ _ _ hac hbd).mono ?_
    rintro e w1 ⟨rfl, hg1⟩
    replace HI := Lib.hid (HI.out.grows hg1)
    replace HP := Lib.hid (HP.out.grows hg1)
    have HG := Lib.hid hg1
    clear q0 q1 q2 q3 q4 q5 hg1
    obtain ⟨q0, q1, q2, q3, q4, q5⟩ := HI.out.cells
    go_wp2_with fail
    refine (dx_any _ _ _ _ _ (by omega) (by omega)).mono ?_
    rintro e w2 ⟨rfl, hg2⟩
    replace HI := Lib.hid (HI.out.grows hg2)
    replace HP := Lib.hid (HP.out.grows hg2)
    replace HG := Lib.hid (HG.out.step hg2)
    clear q0 q1 q2 q3 q4 q5 hg2
    obtain ⟨q0, q1, q2, q3, q4, q5⟩ := HI.out.cells
    go_wp2_with fail
    go_loopw [3, 4, 5, 6] (fun i0v i1v yv _ wr => ∃ r i0 i1 : Nat, r ≤ H ∧ i0 = r * (W * 4) + (4 - 1) ∧ i1 = r * (W * 4) + W * 4 ∧ i0v = .int .i64 i0 ∧ i1v = .int .i64 i1 ∧ yv = .int .i64 (b + r) ∧ (∀ i, i < r * (W * 4) → i % 4 = 4 - 1 → f i = 255) ∧ w2 = wr) (fun _ _ yv _ _ => (d - intOf yv).toNat)
    case atStart =>
      have hW := HW.out
      exact ⟨0, _, _, Nat.zero_le _, rfl, rfl, by simp, by simp; omega, by simp, fun i hi => by omega, rfl⟩
    case round =>
      obtain ⟨r, i0, i1, hr, hi0, hi1, rfl, rfl, rfl, hdone, rfl⟩ := hrel
      by_cases hrH : r < H
      · have hP1 : (r + 1) * (W * 4) ≤ H * (W * 4) := Nat.mul_le_mul_right _ hrH
        have hP2 : (r + 1) * (W * 4) = r * (W * 4) + W * 4 := by rw [Nat.add_mul, Nat.one_mul]
        have hP3 : r * (W * 4) % 4 = 0 := by rw [← Nat.mul_assoc]; exact Nat.mul_mod_left _ _
        have HRW' := HRW.out
        rw [hP2, ← HRW'] at hP1
        have HP2 := Lib.hid hP2
        have HD := Lib.hid hdone
        clear HRW' hP2 hdone
        generalize r * (W * 4) = P at *
        have hb1 : decide (b + (r : Int) < d) = true := decide_eq_true (by have := HH.out; omega)
        have hbr : b + (r : Int) < d := by have := HH.out; omega
        have hl0 : i0 ≤ n + 3 := by omega
        have hl1 : i1 ≤ n := by omega
        have HI0 := Lib.hid hi0
        have HI1 := Lib.hid hi1
        have HP3 := Lib.hid hP3
        clear hi0 hi1 hP3
        go_wp2_with fail
        go_loopw [6] (fun iv wr => ∃ j q : Nat, j ≤ W ∧ q = P + 4 * j + (4 - 1) ∧ iv = .int .i64 q ∧ (∀ i, i < P + 4 * j → i % 4 = 4 - 1 → f i = 255) ∧ w2 = wr) (fun iv _ => i1 - (intOf iv).toNat)
        case atStart =>
          have hi0 := HI0.out
          exact ⟨0, i0, Nat.zero_le _, by omega, rfl, fun i hi => HD.out i (by omega), rfl⟩
        case round =>
          obtain ⟨j, q, hj, hq, rfl, hdone, rfl⟩ := hrel
          have HQ := Lib.hid hq
          clear hq
          by_cases hjW : j < W
          · have hq := HQ.out
            have hi1 := HI1.out
            have hP3 := HP3.out
            have hqn : q < n := by omega
            have hcell := HP.out.cell (i := q) hqn
            have hb2 : decide ((q : Int) < i1) = true := decide_eq_true (by omega)
            have hq1 : q < i1 := by omega
            have hmod : Hid (q % 4 = 4 - 1) := by unfold Hid; omega
            clear hq hi1 hP3
            have HD2 := Lib.hid hdone
            clear hdone
            have HFQ : Hid (f q = f q) := rfl
            by_cases h255 : f q = 255
            · have hb3 : (f q != 255) = false := by simp [h255]
              have HF5 := Lib.hid h255
              clear h255
              generalize hfu : f q = fu at *
              have HFU := Lib.hid hfu
              clear hfu
              go_wp2_with fail
              go_roundw
              case rel =>
                have hq := HQ.out
                have hP3 := HP3.out
                refine ⟨j + 1, q + 4, by omega, by omega, by go_num, fun i hi him => ?_, by first | rfl | trivial⟩
                by_cases hiq : i < P + 4 * j
                · exact HD2.out i hiq him
                · have : i = q := by omega
                  subst this
                  exact HFU.out.trans HF5.out
              case measure => simp [intOf]; omega
            · have hb3 : (f q != 255) = true := by simp [h255]
              have HR : Hid (res = false) := HN.out q hqn hmod.out h255
              clear h255 HFQ
              generalize f q = fu at *
              go_wp2_with fail
              go_ret
              exact ⟨ret_bool HR.out.symm, HG.out⟩
          · have hb2 : decide ((q : Int) < i1) = false := decide_eq_false (by have hq := HQ.out; have hi1 := HI1.out; omega)
            have hq1 : ¬ q < i1 := by have hq := HQ.out; have hi1 := HI1.out; omega
            have HD2 := Lib.hid hdone
            clear hdone
            go_wp2_with fail
            go_roundw
            case rel =>
              have hi0 := HI0.out
              have hi1 := HI1.out
              refine ⟨r + 1, i0 + W * 4, i1 + W * 4, by omega, by rw [HP2.out]; omega, by rw [HP2.out]; omega, by go_num, by go_num, by simp; omega, fun i hi him => ?_, by first | rfl | trivial⟩
              rw [HP2.out] at hi
              exact HD2.out i (by omega) him
            case measure => simp [intOf]; omega
      · have hb1 : decide (b + (r : Int) < d) = false := decide_eq_false (by have := HH.out; omega)
        have hbr : ¬ b + (r : Int) < d := by have := HH.out; omega
        have HR : Hid (res = true) := HO.out (by have hrH' : r = H := by omega
                                                 rw [← hrH']; exact hdone)
        clear hdone hi0 hi1
        go_wp2_with fail
        go_ret
        exact ⟨ret_bool HR.out.symm, HG.out⟩
  · have h0 : total a b c d 4 = 0 := by
      rw [hrows]
      have : (c - a).toNat = 0 ∨ (d - b).toNat = 0 := by omega
      rcases this with h | h <;> simp [h]
    have HR : Hid (opq 4 (total a b c d 4) f = true) := opq_yes (fun i hi => by omega)
    have hem : c ≤ a ∨ d ≤ b := by omega
    obtain ⟨q0, q1, q2, q3, q4, q5⟩ := hI.cells
    clear hI hP hrows hS h0
    generalize opq 4 (total a b c d 4) f = res at *
    go_enter Try.func33, Try.ntmps33
    go_wp2_with fail
    refine (empty_yes _ _ _ _ _ hem).mono ?_
    rintro e w1 ⟨rfl, hg1⟩
    go_wp2_with fail
    go_ret
    exact ⟨ret_bool HR.out.symm, hg1⟩

set_option maxHeartbeats 1000000 in
theorem implOpaque_any (a b c d : Int) (v : Value) (zs : List Int) (w : World) (hf : Fine a b c d) (h : RdI w v zs) :
    Calls Try.prog 18 #[box4 a b c d, v] w fun e w' => e = .returned (.bool (opq 4 (total a b c d 4) (byteAt zs))) ∧ Grows w w' := by
  have HR := Lib.hid h
  have HF := Lib.hid hf
  obtain ⟨A, cc, rfl, _⟩ := h
  clear hf
  go_enter Try.func18, Try.ntmps18
  go_wp2_with fail
  refine (mk_any _ _ _ _ _ zs _ HF.out (HR.out.grows ((Grows.rfl' w).alloc' _))).mono ?_
  rintro e w1 ⟨ib, pb, rfl, hib, hpb, him, hpx, hg1⟩
  have HO := Lib.hid (opaque_any ib pb _ a b c d _ HF.out him hpx)
  have HG : Hid (Grows w w1) := ((Grows.rfl' w).alloc' _).step hg1
  clear him hpx hg1 HR
  go_wp2_with fail
  refine HO.out.mono ?_
  rintro e w2 ⟨rfl, hg2⟩
  go_wp2_with fail
  go_ret
  exact ⟨rfl, HG.out.step hg2⟩

set_option maxHeartbeats 1000000 in
theorem specOpaque_any (a b c d : Int) (v : Value) (zs : List Int) (w : World) (hf : Fine a b c d) (h : RdI w v zs) :
    Calls Try.prog 19 #[box4 a b c d, v] w fun e w' => e = .returned (.bool (opq 4 (total a b c d 4) (byteAt zs))) ∧ Grows w w' := by
  have HR := Lib.hid h
  have HF := Lib.hid hf
  have htl := total_le (k := 4) (by omega) hf
  have hrows := total_rows 4 hf
  have hmod : total a b c d 4 % 4 = 0 := by rw [hrows, ← Nat.mul_assoc]; exact Nat.mul_mod_left _ _
  clear hrows
  obtain ⟨A, cc, rfl, _⟩ := h
  clear hf
  have HO : Hid ((∀ i, i < total a b c d 4 → i % 4 = 4 - 1 → byteAt zs i = 255) → opq 4 (total a b c d 4) (byteAt zs) = true) := opq_yes
  have HN : Hid (∀ i, i < total a b c d 4 → i % 4 = 4 - 1 → byteAt zs i ≠ 255 → opq 4 (total a b c d 4) (byteAt zs) = false) := fun i h1 h2 h3 => opq_no h1 h2 h3
  generalize opq 4 (total a b c d 4) (byteAt zs) = res at *
  go_enter Try.func19, Try.ntmps19
  go_wp2_with fail
  refine (filled_any _ _ _ _ 4 (by omega) HF.out _ zs _ (HR.out.grows ((Grows.rfl' w).alloc' _))).mono ?_
  rintro e w1 ⟨g, rfl, hge, hix, hg1⟩
  have HIX := Lib.hid hix
  have HG : Hid (Grows w w1) := ((Grows.rfl' w).alloc' _).step hg1
  clear hix hg1 HR HF
  generalize total a b c d 4 = n at *
  generalize byteAt zs = f at *
  go_wp2_with fail
  go_loopw [6] (fun iv wr => ∃ j q : Nat, 4 * j ≤ n ∧ q = 4 * j + 3 ∧ iv = .int .i64 q ∧ (∀ i, i < 4 * j → i % 4 = 4 - 1 → f i = 255) ∧ w1 = wr) (fun iv _ => n + 4 - (intOf iv).toNat)
  case atStart => exact ⟨0, 3, Nat.zero_le _, rfl, rfl, fun i hi => by omega, rfl⟩
  case round =>
    obtain ⟨j, q, hj, hq, rfl, hdone, rfl⟩ := hrel
    have HD := Lib.hid hdone
    have HQ := Lib.hid hq
    clear hdone
    by_cases hlt : q < n
    · have hcell := HIX.out.cell (i := q) hlt
      have hb1 : decide ((q : Int) < n) = true := decide_eq_true (by omega)
      clear hq
      by_cases h255 : f q = 255
      · have hb3 : (f q != 255) = false := by simp [h255]
        have HF5 := Lib.hid h255
        clear h255
        generalize hfu : f q = fu at *
        have HFU := Lib.hid hfu
        clear hfu
        go_wp2_with fail
        go_roundw
        case rel =>
          have hq := HQ.out
          refine ⟨j + 1, q + 4, by omega, by omega, by go_num, fun i hi him => ?_, by first | rfl | trivial⟩
          by_cases hij : i < 4 * j
          · exact HD.out i hij him
          · have : i = q := by omega
            subst this
            exact HFU.out.trans HF5.out
        case measure => simp [intOf]; omega
      · have hb3 : (f q != 255) = true := by simp [h255]
        have HRS : Hid (res = false) := HN.out q hlt (by have hq := HQ.out; omega) h255
        clear h255
        generalize f q = fu at *
        go_wp2_with fail
        go_ret
        exact ⟨ret_bool HRS.out.symm, HG.out⟩
    · have hb1 : decide ((q : Int) < n) = false := decide_eq_false (by omega)
      have HRS : Hid (res = true) := HO.out (fun i hi him => HD.out i (by omega) him)
      clear hq
      go_wp2_with fail
      go_ret
      exact ⟨ret_bool HRS.out.symm, HG.out⟩
end Go.Proofs.Ytilpoogcdhcmeaa

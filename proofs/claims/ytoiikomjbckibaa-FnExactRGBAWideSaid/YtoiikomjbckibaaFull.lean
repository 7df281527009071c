/-
  The contract of the reference's CMYKWide: each light is all (65535) where its ink and black are 0, else 0; then 65535. No condition.
-/
import Derived.Test.YtoiikomjbckibaaWide
import Derived.Test.YtoiikomjbckibaaPush
namespace Go.Proofs.Ytoiikomjbckibaa
open Go.RowKit

def full (n k : Int) : Int := if n % 256 = 0 ∧ k % 256 = 0 then 65535 else 0
theorem full_in (n k : Int) : 0 ≤ full n k ∧ full n k ≤ 65535 := by unfold full; split <;> omega
theorem full_yes {n k : Int} (h1 : n % 256 = 0) (h2 : k % 256 = 0) : full n k = 65535 := if_pos ⟨h1, h2⟩
theorem full_no1 {n k : Int} (h1 : ¬ n % 256 = 0) : full n k = 0 := if_neg fun h => h1 h.1
theorem full_no2 {n k : Int} (h1 : ¬ k % 256 = 0) : full n k = 0 := if_neg fun h => h1 h.2

/-- The result reads as a list of ints and lies in new memory. -/
def NewInts (xs : List Int) (W : World) (e : Ending) (w' : World) : Prop := ∃ v, e = .returned v ∧ OwnI W w' v xs

set_option maxHeartbeats 1000000 in
theorem specCMYKWide_any (a b c d : Int) (w : World) :
    Calls Try.prog 20 #[.agg #[.int .i64 a, .int .i64 b, .int .i64 c, .int .i64 d]] w (NewInts [full a d, full b d, full c d, 65535] w) := by
  go_enter Try.func20, Try.ntmps20
  go_wp2_with fail
  have HG : Hid (Grows w ((w.alloc (.cells #[.int .i64 a, .int .i64 b, .int .i64 c, .int .i64 d] 30)).alloc (.cells #[.int .i64 a, .int .i64 b, .int .i64 c] 3))) := ((Grows.rfl' w).alloc' _).alloc' _
  have q3 : ((w.alloc (.cells #[.int .i64 a, .int .i64 b, .int .i64 c, .int .i64 d] 30)).alloc (.cells #[.int .i64 a, .int .i64 b, .int .i64 c] 3)).cell? ⟨w.heap.size, 3, none⟩ = some (.int .i64 d) := by simp
  have HC : ∀ k : Nat, k < 3 → ∃ n : Int, ((w.alloc (.cells #[.int .i64 a, .int .i64 b, .int .i64 c, .int .i64 d] 30)).alloc (.cells #[.int .i64 a, .int .i64 b, .int .i64 c] 3)).cell? ⟨w.heap.size + 1, k, none⟩ = some (.int .i64 n) ∧
      [full a d, full b d, full c d].take (k + 1) = [full a d, full b d, full c d].take k ++ [full n d] := by
    intro k hk
    rcases k with _ | _ | _ | k
    · exact ⟨a, by simp, by simp⟩
    · exact ⟨b, by simp, by simp⟩
    · exact ⟨c, by simp, by simp⟩
    · omega
  have HH := Lib.hid HC
  clear HC
  generalize (w.alloc (.cells #[.int .i64 a, .int .i64 b, .int .i64 c, .int .i64 d] 30)).alloc (.cells #[.int .i64 a, .int .i64 b, .int .i64 c] 3) = w1 at *
  go_loopw [3, 5, 14] (fun v _ i wr => ∃ k : Nat, k ≤ 3 ∧ i = .int .i64 k ∧ OwnI w1 wr v ([full a d, full b d, full c d].take k)) (fun _ _ i _ => 3 - (intOf i).toNat)
  case atStart => exact ⟨0, by omega, rfl, OwnI.nil (Grows.rfl' _)⟩
  case round =>
    obtain ⟨k, hk, rfl, hown⟩ := hrel
    by_cases hlt : k < 3
    · obtain ⟨n, hn, ht⟩ := HH.out k hlt
      have hn2 := hown.2.cell_some hn
      have hq3 := hown.2.cell_some q3
      have HT := Lib.hid ht
      have HO := Lib.hid hown
      have hll : ([full a d, full b d, full c d].take k).length ≤ 3 := by simp; omega
      clear hn ht hown q3
      have hb3 : decide ((k : Int) < 3) = true := by simp; omega
      generalize [full a d, full b d, full c d].take k = L at *
      have hcase : ((n % 256 == 0) = true ∧ (d % 256 == 0) = true) ∨ ((n % 256 == 0) = true ∧ (d % 256 == 0) = false) ∨ (n % 256 == 0) = false := by
        cases (n % 256 == 0) <;> cases (d % 256 == 0) <;> simp
      rcases hcase with ⟨t1, t2⟩ | ⟨t1, t2⟩ | t1
      · have HF : Hid (full n d = 65535) := full_yes (by simpa using t1) (by simpa using t2)
        go_wp2_with (first | (go_at_call 24; refine (slow_any _ _).mono ?_; rintro e w' ⟨rfl, rfl⟩) | (at_builtin; refine push_wp rfl _ _ rfl w1 _ L 65535 rfl (HO.out.later ((Grows.rfl' _).alloc' _)) wr.heap.size rfl (by simp) (by omega) ?_; intro v' w' hown'))
        go_roundw
        case rel => exact ⟨k + 1, by omega, by go_num, by rw [HT.out, HF.out]; exact hown'⟩
        case measure => simp [intOf]; omega
      · have HF : Hid (full n d = 0) := full_no2 (by simpa using t2)
        go_wp2_with (first | (go_at_call 24; refine (slow_any _ _).mono ?_; rintro e w' ⟨rfl, rfl⟩) | (at_builtin; refine push_wp rfl _ _ rfl w1 _ L 0 rfl (HO.out.later ((Grows.rfl' _).alloc' _)) wr.heap.size rfl (by simp) (by omega) ?_; intro v' w' hown'))
        go_roundw
        case rel => exact ⟨k + 1, by omega, by go_num, by rw [HT.out, HF.out]; exact hown'⟩
        case measure => simp [intOf]; omega
      · have HF : Hid (full n d = 0) := full_no1 (by simpa using t1)
        go_wp2_with (first | (go_at_call 24; refine (slow_any _ _).mono ?_; rintro e w' ⟨rfl, rfl⟩) | (at_builtin; refine push_wp rfl _ _ rfl w1 _ L 0 rfl (HO.out.later ((Grows.rfl' _).alloc' _)) wr.heap.size rfl (by simp) (by omega) ?_; intro v' w' hown'))
        go_roundw
        case rel => exact ⟨k + 1, by omega, by go_num, by rw [HT.out, HF.out]; exact hown'⟩
        case measure => simp [intOf]; omega
    · have hk3 : k = 3 := by omega
      subst hk3
      have HO := Lib.hid hown
      clear hown
      go_wp2_with (at_builtin; refine push_wp rfl _ _ rfl w1 _ _ 65535 rfl (HO.out.later ((Grows.rfl' _).alloc' _)) wr.heap.size rfl (by simp) (by simp) ?_; intro v' w' hown')
      go_ret
      exact ⟨_, rfl, hown'.base HG.out⟩
end Go.Proofs.Ytoiikomjbckibaa

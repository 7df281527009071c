/-
  The contract of the statements' 'at': the bytes of a pixel of a picture, where its fields tell. Conditions: the pixel's bytes are all there.
-/
import Derived.Test.YtfnmgkbeeckjnaaSamePic
namespace Go.Proofs.Ytfnmgkbeeckjnaa
open Go.RowKit
set_option linter.unusedVariables false

/-- The result: a slice of bytes, and true. -/
def GotBytes (zs : List Int) (W : World) (e : Ending) (w' : World) : Prop := ∃ s, e = .returned (.tuple #[s, .bool true]) ∧ RdI w' s zs ∧ Grows W w'

set_option maxHeartbeats 1000000 in
theorem at_yes (a b c d st x y : Int) (k i : Nat) (v : Value) (zs : List Int) (w : World) (hp : IsPic a b c d st zs v w) (hk1 : 1 ≤ k) (hk4 : k ≤ 4) (h1 : 0 ≤ y - b) (h2 : y - b ≤ 1000) (h3 : 0 ≤ x - a) (h4 : x - a ≤ 1000) (h5 : 0 ≤ st) (h6 : st ≤ 4000)
    (hi : (y - b) * st + (x - a) * k = i) (hl : i + k ≤ zs.length) :
    Calls Try.prog 27 #[v, .int .i64 k, .int .i64 x, .int .i64 y] w (GotBytes ((zs.drop i).take k) w) := by
  obtain ⟨p, rfl, hr⟩ := hp
  obtain ⟨A, cc, rfl, hc, hm, hl2, hz, hrr⟩ := hr
  obtain ⟨bb, oo, rfl, _⟩ := hrr i zs[i] (List.getElem?_eq_getElem (by omega))
  have HR : Hid (RdI w (.slice (some ⟨bb, oo + i, none⟩) k (cc - i)) ((zs.drop i).take k)) := by
    have hlen : ((zs.drop i).take k).length = k := by simp; omega
    refine ⟨_, cc - i, by rw [hlen], by rw [hlen]; omega, by omega, by rw [hlen]; omega, fun n hn => hz n (List.mem_of_mem_drop (List.mem_of_mem_take hn)), fun j n hj => ⟨bb, oo + i, rfl, ?_⟩⟩
    have hjk : j < k := by have := (List.getElem?_eq_some_iff.1 hj).1; omega
    rw [List.getElem?_take_of_lt hjk, List.getElem?_drop] at hj
    obtain ⟨b2, o2, he, hcell⟩ := hrr (i + j) n hj
    simp only [Option.some.injEq, Addr.mk.injEq, and_true] at he
    obtain ⟨rfl, rfl⟩ := he
    rw [Nat.add_assoc]
    exact hcell
  have p1 : 0 ≤ (y - b) * st := Int.mul_nonneg h1 h5
  have p2 : (y - b) * st ≤ 1000 * 4000 := Int.mul_le_mul (by omega) (by omega) (by omega) (by omega)
  have p3 : 0 ≤ (x - a) * (k : Int) := Int.mul_nonneg h3 (by omega)
  have p4 : (x - a) * (k : Int) ≤ 1000 * 4 := Int.mul_le_mul (by omega) (by omega) (by omega) (by omega)
  have HI := Lib.hid hi
  have hi1 : 0 ≤ (y - b) * st + (x - a) * (k : Int) := by omega
  have t1 : decide ((y - b) * st + (x - a) * (k : Int) < 0) = false := decide_eq_false (by omega)
  have t2 : decide ((zs.length : Int) < (y - b) * st + (x - a) * (k : Int) + k) = false := decide_eq_false (by omega)
  have hq1 : (y - b) * st + (x - a) * (k : Int) + k ≤ (zs.length : Int) := by omega
  have hq2 : (y - b) * st + (x - a) * (k : Int) + k ≤ (cc : Int) := by omega
  have E1 : Hid (((y - b) * st + (x - a) * (k : Int)).toNat = i) := by unfold Hid; omega
  have E2 : Hid (((y - b) * st + (x - a) * (k : Int) + k).toNat - ((y - b) * st + (x - a) * (k : Int)).toNat = k) := by unfold Hid; omega
  clear hrr hz hi
  go_enter Try.func27, Try.ntmps27
  go_wp2_with fail
  go_ret2
  refine ⟨_, rfl, ?_, (Grows.rfl' _).alloc' _⟩
  show RdI _ (.slice (some ⟨bb, oo + ((y - b) * st + (x - a) * (k : Int)).toNat, none⟩) (((y - b) * st + (x - a) * (k : Int) + k).toNat - ((y - b) * st + (x - a) * (k : Int)).toNat) (cc - ((y - b) * st + (x - a) * (k : Int)).toNat)) _
  rw [E2.out, E1.out]
  exact HR.out.grows ((Grows.rfl' _).alloc' _)
end Go.Proofs.Ytfnmgkbeeckjnaa

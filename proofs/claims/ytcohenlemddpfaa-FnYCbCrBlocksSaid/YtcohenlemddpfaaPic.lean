/-
  Contracts of numbers, picture and fill, and of the reference's low, filled, made and place. Conditions stand in each theorem.
-/
import Derived.Test.YtcohenlemddpfaaGeo
import Derived.Test.YtcohenlemddpfaaPush
import Derived.Deep.OwnRows
namespace Go.Proofs.Ytcohenlemddpfaa
open Go.RowKit
set_option linter.unusedVariables false

/-- The result reads as a list of ints and lies in new memory. -/
def NewInts (xs : List Int) (W : World) (e : Ending) (w' : World) : Prop := ∃ v, e = .returned v ∧ OwnI W w' v xs

theorem take_snoc {zs : List Int} {k : Nat} {n : Int} (h : zs[k]? = some n) : zs.take (k + 1) = zs.take k ++ [n] := by
  rw [List.take_add_one, h]; rfl

set_option maxHeartbeats 400000 in
theorem numbers_any (v : Value) (zs : List Int) (w : World) (h : RdB w v zs) : Calls Try.prog 42 #[v] w (NewInts zs w) := by
  obtain ⟨A, c, rfl, hc, hm, hl, hz, hr⟩ := h
  have HR := Lib.hid hr
  have HZ := Lib.hid hz
  clear hr hz
  go_enter Try.func42, Try.ntmps42
  go_wp2_with fail
  go_loopw [3, 5, 8] (fun o _ i wr => ∃ k : Nat, k ≤ zs.length ∧ i = .int .i64 k ∧ OwnI w wr o (zs.take k)) (fun _ _ i _ => zs.length - (intOf i).toNat)
  case atStart => exact ⟨0, Nat.zero_le _, rfl, OwnI.nil (Grows.rfl' _)⟩
  case round =>
    obtain ⟨k, hk, rfl, hown⟩ := hrel
    have HO := Lib.hid hown
    clear hown
    by_cases hlt : k < zs.length
    · have he : zs[k]? = some zs[k] := List.getElem?_eq_getElem hlt
      obtain ⟨b, o, rfl, hcell⟩ := HR.out k zs[k] he
      have hcell2 := HO.out.2.cell_some hcell
      have hn := HZ.out zs[k] (List.getElem_mem hlt)
      have HT := Lib.hid (take_snoc he)
      have hll : (zs.take k).length ≤ k := List.length_take_le _ _
      have hb3 : decide ((k : Int) < zs.length) = true := by simp; omega
      clear hcell he
      generalize zs[k] = n at *
      generalize zs.take k = L at *
      go_wp2_with (at_builtin; refine push_wp rfl _ _ rfl w _ L n rfl (HO.out.later ((Grows.rfl' _).alloc' _)) wr.heap.size rfl (by simp) (by omega) ?_; intro v' w' hown')
      go_roundw
      case rel => exact ⟨k + 1, by omega, by go_num, by rw [HT.out]; exact hown'⟩
      case measure => simp [intOf]; omega
    · have HX : Hid (zs.take k = zs) := List.take_of_length_le (by omega)
      go_wp2
      go_ret
      exact ⟨_, rfl, by have := HO.out; rw [HX.out] at this; exact this⟩


/-! ### Pixels in memory -/
/-- Block pb is a row of N bytes, byte i being f i. -/
def Px (w : World) (pb N : Nat) (f : Nat → Int) : Prop := w.rowIs pb 5 N (fun i => .int .u8 (f i))

theorem Px.congr {w : World} {pb N : Nat} {f g : Nat → Int} (h : Px w pb N f) (e : ∀ i, i < N → f i = g i) : Px w pb N g := World.rowIs.congr h fun i hi => by rw [e i hi]
theorem Px.lt {w : World} {pb N : Nat} {f : Nat → Int} (h : Px w pb N f) : pb < w.heap.size := World.rowIs.lt h
theorem Px.grows {w w' : World} {pb N : Nat} {f : Nat → Int} (h : Px w pb N f) (hg : Grows w w') : Px w' pb N f := World.rowIs.of_block h (hg.block pb h.lt)
theorem Px.cell {w : World} {pb N : Nat} {f : Nat → Int} (h : Px w pb N f) {i : Nat} (hi : i < N) : w.cell? ⟨pb, i, none⟩ = some (.int .u8 (f i)) := World.rowIs.cell h hi
theorem Px.frozen {w : World} {pb N : Nat} {f : Nat → Int} (h : Px w pb N f) (i : Nat) : w.frozen? ⟨pb, i, none⟩ = false := World.rowIs.frozen h i
/-- No int lies among the bytes. -/
theorem Px.apart {w : World} {pb N : Nat} {f : Nat → Int} (h : Px w pb N f) {b i : Nat} {n : Int} (hc : w.cell? ⟨b, i, none⟩ = some (.int .i64 n)) : b ≠ pb := by
  rintro rfl
  rcases Nat.lt_or_ge i N with hi | hi
  · rw [h.cell hi] at hc
    simp at hc
  · obtain ⟨c, hb, hn, _⟩ := h
    unfold World.cell? at hc
    rw [hb] at hc
    simp only [Option.isSome_none, Bool.false_eq_true, if_false] at hc
    rw [Array.getElem?_eq_none (by omega)] at hc
    cases hc
theorem Px.set {w : World} {pb N : Nat} {f : Nat → Int} (h : Px w pb N f) (i : Nat) (n : Int) : Px (w.setCell ⟨pb, i, none⟩ (.int .u8 n)) pb N (fun j => if j = i then n else f j) := by
  refine World.rowIs.congr (World.rowIs.set h i (.int .u8 n)) fun j _ => ?_
  show (if j = i then Value.int .u8 n else .int .u8 (f j)) = .int .u8 (if j = i then n else f j)
  split <;> rfl

/-- A slice of bytes at offset o of such a block reads as a list. -/
theorem Px.rd {w : World} {pb N o : Nat} {f : Nat → Int} (h : Px w pb N f) (zs : List Int) (c : Nat) (hc : zs.length ≤ c) (hm : c ≤ 9223372036854775807) (hl : zs.length ≤ 17592186044416) (hz : ∀ n ∈ zs, 0 ≤ n ∧ n ≤ 255)
    (hN : o + zs.length ≤ N) (hf : ∀ j n, zs[j]? = some n → f (o + j) = n) : RdB w (.slice (some ⟨pb, o, none⟩) zs.length c) zs := by
  refine ⟨_, c, rfl, hc, hm, hl, hz, fun j n hj => ⟨pb, o, rfl, ?_⟩⟩
  have hjl : j < zs.length := (List.getElem?_eq_some_iff.1 hj).1
  rw [h.cell (by omega), hf j n hj]

/-- The bytes behind a filling. -/
def fillF (f : Nat → Int) (o k : Nat) (zs : List Int) (i : Nat) : Int := if o ≤ i ∧ i < o + k then zs.getD (i - o) 0 % 256 else f i

theorem only_set {a w : World} {g : Nat} (h : a.grownBy w (some g)) (o : Nat) (u : Value) : a.grownBy (w.setCell ⟨g, o, none⟩ u) (some g) :=
  ⟨h.os, h.tape, h.output, by simpa [World.setCell] using h.size, fun i hi hne => (Below.heap_setCell w ⟨g, o, none⟩ u i (by intro e; subst e; exact hne rfl)).trans (h.block i hi hne)⟩

set_option maxHeartbeats 1000000 in
theorem fill_any (pb N o n c : Nat) (f : Nat → Int) (v : Value) (zs : List Int) (w : World) (hp : Px w pb N f) (hN : o + n ≤ N) (hn : n ≤ 17592186044416) (hcap : n ≤ c) (h : RdI w v zs) :
    Calls Try.prog 36 #[.slice (some ⟨pb, o, none⟩) n c, v] w fun e w' => e = .returned (.tuple #[]) ∧ Px w' pb N (fillF f o (min n zs.length) zs) ∧ w.grownBy w' (some pb) := by
  obtain ⟨A, cc, rfl, hc, hm, hl, hz, hr⟩ := h
  have HR := Lib.hid hr
  have HP := Lib.hid hp
  clear hr hz hp
  go_enter Try.func36, Try.ntmps36
  go_wp2_with fail
  go_loopw [4] (fun i wr => ∃ k : Nat, k ≤ n ∧ k ≤ zs.length ∧ i = .int .i64 k ∧ Px wr pb N (fillF f o k zs) ∧ w.grownBy wr (some pb)) (fun i _ => n - (intOf i).toNat)
  case atStart => exact ⟨0, Nat.zero_le _, Nat.zero_le _, rfl, HP.out.congr (fun i _ => by unfold fillF; rw [if_neg (by omega)]), World.grownBy.refl _ _⟩
  case round =>
    obtain ⟨k, hk, hk2, rfl, hpx, hgr⟩ := hrel
    by_cases hlt : k < n
    · by_cases hlt2 : k < zs.length
      · have he : zs[k]? = some zs[k] := List.getElem?_eq_getElem hlt2
        obtain ⟨b, oo, rfl, hcell⟩ := HR.out k zs[k] he
        have hbp := HP.out.apart hcell
        have hcell2 : wr.cell? ⟨b, oo + k, none⟩ = some (.int .i64 zs[k]) := (World.cell?_of_block (hgr.block b (cell_lt hcell) (fun e => hbp (by simpa using e)))).trans hcell
        have hfz := hpx.frozen (o + k)
        have hcp := hpx.cell (i := o + k) (by omega)
        have HPX : Hid (Px (wr.setCell ⟨pb, o + k, none⟩ (.int .u8 (zs[k] % 256))) pb N (fillF f o (k + 1) zs)) := (hpx.set (o + k) _).congr (fun i _ => by
          unfold fillF
          by_cases hi : i = o + k
          · subst hi
            rw [if_pos rfl, if_pos (by omega)]
            simp [List.getD, he]
          · rw [if_neg hi]
            by_cases h1 : o ≤ i ∧ i < o + k
            · rw [if_pos h1, if_pos (by omega)]
            · rw [if_neg h1, if_neg (by omega)])
        have HGR := Lib.hid (only_set hgr (o + k) (.int .u8 (zs[k] % 256)))
        clear hpx hgr hcell hbp he
        generalize fillF f o k zs (o + k) = u0 at *
        generalize zs[k] = z at *
        have hb1 : decide ((k : Int) < n) = true := by simp; omega
        have hb2 : decide ((k : Int) < zs.length) = true := by simp; omega
        go_wp2
        go_roundw
        case rel => exact ⟨k + 1, by omega, by omega, by go_num, HPX.out, HGR.out⟩
        case measure => simp [intOf]; omega
      · have hkm : min n zs.length = k := by omega
        have HK := Lib.hid hkm
        have HPX := Lib.hid hpx
        clear hkm hpx
        have hb1 : decide ((k : Int) < n) = true := by simp; omega
        have hb2 : decide ((k : Int) < zs.length) = false := by simp; omega
        go_wp2
        go_end0
        exact ⟨rfl, by rw [HK.out]; exact HPX.out, hgr⟩
    · have hkm : min n zs.length = k := by omega
      have HK := Lib.hid hkm
      have HPX := Lib.hid hpx
      clear hkm hpx
      have hb1 : decide ((k : Int) < n) = false := by simp; omega
      go_wp2
      go_end0
      exact ⟨rfl, by rw [HK.out]; exact HPX.out, hgr⟩
end Go.Proofs.Ytcohenlemddpfaa

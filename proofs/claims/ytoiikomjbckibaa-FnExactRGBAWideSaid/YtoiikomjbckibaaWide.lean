/-
  The contracts of the functions that turn a color into four wide numbers (image/color's RGBA methods, the thin package's and the reference's functions over them). Conditions: the numbers of a color are ints; they stand in each theorem.
-/
import Derived.Test.YtoiikomjbckibaaSame
namespace Go.Proofs.Ytoiikomjbckibaa
open Go.RowKit

/-! ### Plain numbers -/
theorem tmod_or (n : Int) : (0 ≤ n ∧ n.tmod 256 = n % 256) ∨ (n < 0 ∧ n.tmod 256 = -((-n) % 256)) := by
  rcases Int.lt_or_le n 0 with h | h
  · refine .inr ⟨h, ?_⟩
    have h1 : n = -(-n) := by omega
    have h2 : (-(-n)).tmod 256 = -((-n).tmod 256) := Int.neg_tmod ..
    rw [← h1] at h2
    rw [h2, Int.tmod_eq_emod_of_nonneg (by omega)]
  · exact .inl ⟨h, Int.tmod_eq_emod_of_nonneg h⟩

theorem low_eq (n : Int) : (wrap64 (n.tmod 256 + 256)).tmod 256 = n % 256 := by
  have h := tmod_or n
  have e : wrap64 (n.tmod 256 + 256) = n.tmod 256 + 256 := by
    unfold wrap64
    rcases h with ⟨_, h⟩ | ⟨_, h⟩ <;> rw [h] <;> omega
  rw [e, Int.tmod_eq_emod_of_nonneg (by rcases h with ⟨_, h⟩ | ⟨_, h⟩ <;> rw [h] <;> omega)]
  rcases h with ⟨_, h⟩ | ⟨_, h⟩ <;> rw [h] <;> omega

theorem or257 (a : Int) (h1 : 0 ≤ a) (h2 : a < 256) : bits BinOp.or IntKind.u32 a (a * 256) = a * 257 := by
  have key : ∀ k : Fin 256, bits BinOp.or IntKind.u32 ((k.val : Nat) : Int) (((k.val : Nat) : Int) * 256) = ((k.val : Nat) : Int) * 257 := by decide +kernel
  have := key ⟨a.toNat, by omega⟩
  have e : ((a.toNat : Nat) : Int) = a := by omega
  simp only [e] at this
  exact this

theorem ink_in (a d : Int) (h1 : 0 ≤ a) (h2 : a < 256) (h3 : 0 ≤ d) (h4 : d < 256) : (65535 - a * 257) * (65535 - d * 257) % 4294967296 / 65535 = (65535 - a * 257) * (65535 - d * 257) / 65535 := by
  have e1 : 0 ≤ (65535 - a * 257) * (65535 - d * 257) := Int.mul_nonneg (by omega) (by omega)
  have e2 : (65535 - a * 257) * (65535 - d * 257) ≤ 65535 * 65535 := Int.mul_le_mul (by omega) (by omega) (by omega) (by omega)
  rw [Int.emod_eq_of_lt e1 (by omega)]

/-- What an ink and black leave. -/
def ink (n k : Int) : Int := (65535 - n % 256 * 257) * (65535 - k % 256 * 257) / 65535

/-! ### Contracts -/
set_option maxHeartbeats 400000 in
theorem low_any (n : Int) (w : World) :
    Calls Try.prog 18 #[.int .i64 n] w fun e w' => e = .returned (.int .i64 (n % 256)) ∧ w = w' := by
  have HL := Lib.hid (low_eq n)
  go_enter Try.func18, Try.ntmps18
  go_wp2
  go_ret
  exact ⟨ret_int HL.out, rfl⟩

set_option maxHeartbeats 400000 in
theorem slow_any (n : Int) (w : World) :
    Calls Try.prog 24 #[.int .i64 n] w fun e w' => e = .returned (.int .i64 (n % 256)) ∧ w = w' := by
  have HL := Lib.hid (low_eq n)
  go_enter Try.func24, Try.ntmps24
  go_wp2
  go_ret
  exact ⟨ret_int HL.out, rfl⟩

theorem low_g (n : Int) (w : World) : Calls Try.prog 18 #[.int .i64 n] w fun e w' => e = .returned (.int .i64 (n % 256)) ∧ Grows w w' :=
  (low_any n w).mono fun _ _ ⟨he, hw⟩ => ⟨he, hw ▸ Grows.rfl' _⟩
theorem slow_g (n : Int) (w : World) : Calls Try.prog 24 #[.int .i64 n] w fun e w' => e = .returned (.int .i64 (n % 256)) ∧ Grows w w' :=
  (slow_any n w).mono fun _ _ ⟨he, hw⟩ => ⟨he, hw ▸ Grows.rfl' _⟩

theorem results_tmp4 {fn : Func} {t u v x : Tmp} (h : fn.results = #[.tmp t, .tmp u, .tmp v, .tmp x]) (tmps : Array Value) (P : Program) (w : World) :
    (results fn tmps).run P w = .ok (.tuple #[tmps.getD t undef, tmps.getD u undef, tmps.getD v undef, tmps.getD x undef]) w := by simp [results, h]

theorem tup4 {a b c d a' b' c' d' : Int} (h1 : a = a') (h2 : b = b') (h3 : c = c') (h4 : d = d') :
    Ending.returned (.tuple #[.int .u32 a, .int .u32 b, .int .u32 c, .int .u32 d]) = .returned (.tuple #[.int .u32 a', .int .u32 b', .int .u32 c', .int .u32 d']) := by
  rw [h1, h2, h3, h4]

set_option maxHeartbeats 400000 in
theorem alphaRGBA_any (a : Int) (w : World) (h1 : 0 ≤ a) (h2 : a < 256) :
    Calls Try.prog 26 #[.agg #[.int .u8 a]] w fun e w' => e = .returned (.tuple #[.int .u32 (a * 257), .int .u32 (a * 257), .int .u32 (a * 257), .int .u32 (a * 257)]) ∧ Grows w w' := by
  have HO := Lib.hid (or257 a h1 h2)
  go_enter Try.func26, Try.ntmps26
  go_wp2
  refine bodyPost_ret (results_tmp4 rfl _ _ _) rfl ?_
  exact ⟨tup4 HO.out HO.out HO.out HO.out, (Grows.rfl' _).alloc' _⟩

set_option maxHeartbeats 400000 in
theorem rgbaRGBA_any (a b c d : Int) (w : World) (h1 : 0 ≤ a) (h2 : a < 256) (h3 : 0 ≤ b) (h4 : b < 256) (h5 : 0 ≤ c) (h6 : c < 256) (h7 : 0 ≤ d) (h8 : d < 256) :
    Calls Try.prog 30 #[.agg #[.int .u8 a, .int .u8 b, .int .u8 c, .int .u8 d]] w fun e w' => e = .returned (.tuple #[.int .u32 (a * 257), .int .u32 (b * 257), .int .u32 (c * 257), .int .u32 (d * 257)]) ∧ Grows w w' := by
  have H1 := Lib.hid (or257 a h1 h2)
  have H2 := Lib.hid (or257 b h3 h4)
  have H3 := Lib.hid (or257 c h5 h6)
  have H4 := Lib.hid (or257 d h7 h8)
  go_enter Try.func30, Try.ntmps30
  go_wp2
  refine bodyPost_ret (results_tmp4 rfl _ _ _) rfl ?_
  exact ⟨tup4 H1.out H2.out H3.out H4.out, (Grows.rfl' _).alloc' _⟩

set_option maxHeartbeats 400000 in
theorem cmykRGBA_any (a b c d : Int) (w : World) (h1 : 0 ≤ a) (h2 : a < 256) (h3 : 0 ≤ b) (h4 : b < 256) (h5 : 0 ≤ c) (h6 : c < 256) (h7 : 0 ≤ d) (h8 : d < 256) :
    Calls Try.prog 28 #[.agg #[.int .u8 a, .int .u8 b, .int .u8 c, .int .u8 d]] w fun e w' => e = .returned (.tuple #[.int .u32 ((65535 - a * 257) * (65535 - d * 257) / 65535), .int .u32 ((65535 - b * 257) * (65535 - d * 257) / 65535), .int .u32 ((65535 - c * 257) * (65535 - d * 257) / 65535), .int .u32 65535]) ∧ Grows w w' := by
  go_enter Try.func28, Try.ntmps28
  go_wp2
  refine bodyPost_ret (results_tmp4 rfl _ _ _) rfl ?_
  exact ⟨tup4 (ink_in _ _ h1 h2 h7 h8) (ink_in _ _ h3 h4 h7 h8) (ink_in _ _ h5 h6 h7 h8) rfl, (Grows.rfl' _).alloc' _⟩

/-- The result is a slice of four ints in a block of its own, of which nothing was there before. -/
def Quad (a b c d : Int) (w : World) (e : Ending) (w' : World) : Prop :=
  ∃ g : Nat, e = .returned (.slice (some ⟨g, 0, none⟩) 4 4) ∧ w.heap.size ≤ g ∧ w'.heap[g]? = some (.cells #[.int .i64 a, .int .i64 b, .int .i64 c, .int .i64 d] 3 (0, 0)) ∧ Grows w w'

set_option maxHeartbeats 400000 in
theorem wide_any (a b c d : Int) (w : World) (h1 : 0 ≤ a) (h2 : a < 65536) (h3 : 0 ≤ b) (h4 : b < 65536) (h5 : 0 ≤ c) (h6 : c < 65536) (h7 : 0 ≤ d) (h8 : d < 65536) :
    Calls Try.prog 25 #[.int .u32 a, .int .u32 b, .int .u32 c, .int .u32 d] w (Quad a b c d w) := by
  go_enter Try.func25, Try.ntmps25
  go_wp2
  go_ret
  exact ⟨w.heap.size, rfl, Nat.le_refl _, heap_alloc_new _ _, (Grows.rfl' _).alloc' _⟩

theorem Quad.later {a b c d a' b' c' d' : Int} {w w1 : World} {e : Ending} {w' : World} (hg : Grows w w1) (h : Quad a b c d w1 e w') (h1 : a = a') (h2 : b = b') (h3 : c = c') (h4 : d = d') : Quad a' b' c' d' w e w' := by
  subst h1 h2 h3 h4
  obtain ⟨g, he, hge, hb, hg'⟩ := h
  exact ⟨g, he, Nat.le_trans hg.size hge, hb, hg.step hg'⟩

theorem mod256 (n : Int) : 0 ≤ n % 256 ∧ n % 256 < 256 := by omega

set_option maxHeartbeats 400000 in
theorem alphaWide_any (n : Int) (w : World) :
    Calls Try.prog 12 #[.int .i64 n] w (Quad (n % 256 * 257) (n % 256 * 257) (n % 256 * 257) (n % 256 * 257) w) := by
  have hm := mod256 n
  go_enter Try.func12, Try.ntmps12
  go_wp2_with fail
  refine (alphaRGBA_any _ _ hm.1 hm.2).mono ?_
  rintro e w1 ⟨rfl, hg⟩
  go_wp2_with fail
  refine (wide_any _ _ _ _ _ (by omega) (by omega) (by omega) (by omega) (by omega) (by omega) (by omega) (by omega)).mono ?_
  rintro e w2 ⟨g, rfl, hge, hb, hg2⟩
  go_wp2_with fail
  go_ret
  exact Quad.later hg ⟨g, rfl, hge, hb, hg2⟩ rfl rfl rfl rfl

/-! Structs of four numbers -/
set_option maxHeartbeats 400000 in
theorem cmyk_any (a b c d : Int) (w : World) :
    Calls Try.prog 27 #[.agg #[.int .i64 a, .int .i64 b, .int .i64 c, .int .i64 d]] w fun e w' => e = .returned (.agg #[.int .u8 (a % 256), .int .u8 (b % 256), .int .u8 (c % 256), .int .u8 (d % 256)]) ∧ Grows w w' := by
  go_enter Try.func27, Try.ntmps27
  go_wp2
  exact bodyPost_ret (v := .agg #[.int .u8 (a % 256), .int .u8 (b % 256), .int .u8 (c % 256), .int .u8 (d % 256)]) (by simp [results, Try.results27, go_sem]) rfl ⟨rfl, ((Grows.rfl' _).alloc' _).alloc' _⟩

set_option maxHeartbeats 400000 in
theorem rgba_any (a b c d : Int) (w : World) :
    Calls Try.prog 29 #[.agg #[.int .i64 a, .int .i64 b, .int .i64 c, .int .i64 d]] w fun e w' => e = .returned (.agg #[.int .u8 (a % 256), .int .u8 (b % 256), .int .u8 (c % 256), .int .u8 (d % 256)]) ∧ Grows w w' := by
  go_enter Try.func29, Try.ntmps29
  go_wp2
  exact bodyPost_ret (v := .agg #[.int .u8 (a % 256), .int .u8 (b % 256), .int .u8 (c % 256), .int .u8 (d % 256)]) (by simp [results, Try.results29, go_sem]) rfl ⟨rfl, ((Grows.rfl' _).alloc' _).alloc' _⟩

set_option maxHeartbeats 400000 in
theorem asColor_any (a b c d : Int) (w : World) :
    Calls Try.prog 17 #[.agg #[.int .i64 a, .int .i64 b, .int .i64 c, .int .i64 d]] w fun e w' => e = .returned (.agg #[.int .i64 a, .int .i64 b, .int .i64 c, .int .i64 d]) ∧ Grows w w' := by
  go_enter Try.func17, Try.ntmps17
  go_wp2
  exact bodyPost_ret (v := .agg #[.int .i64 a, .int .i64 b, .int .i64 c, .int .i64 d]) (by simp [results, Try.results17, go_sem]) rfl ⟨rfl, ((Grows.rfl' _).alloc' _).alloc' _⟩

set_option maxHeartbeats 400000 in
theorem toColor_any (a b c d : Int) (w : World) :
    Calls Try.prog 22 #[.agg #[.int .i64 a, .int .i64 b, .int .i64 c, .int .i64 d]] w fun e w' => e = .returned (.agg #[.int .i64 a, .int .i64 b, .int .i64 c, .int .i64 d]) ∧ Grows w w' := by
  go_enter Try.func22, Try.ntmps22
  go_wp2
  exact bodyPost_ret (v := .agg #[.int .i64 a, .int .i64 b, .int .i64 c, .int .i64 d]) (by simp [results, Try.results22, go_sem]) rfl ⟨rfl, (((Grows.rfl' _).alloc' _).alloc' _).alloc' _⟩

theorem inkIn (a d : Int) : 0 ≤ (65535 - a % 256 * 257) * (65535 - d % 256 * 257) / 65535 ∧ (65535 - a % 256 * 257) * (65535 - d % 256 * 257) / 65535 < 65536 := by
  have h1 := mod256 a
  have h2 := mod256 d
  have e1 : 0 ≤ (65535 - a % 256 * 257) * (65535 - d % 256 * 257) := Int.mul_nonneg (by omega) (by omega)
  have e2 : (65535 - a % 256 * 257) * (65535 - d % 256 * 257) ≤ 65535 * 65535 := Int.mul_le_mul (by omega) (by omega) (by omega) (by omega)
  omega

set_option maxHeartbeats 400000 in
theorem cmykWide_any (a b c d : Int) (w : World) :
    Calls Try.prog 16 #[.agg #[.int .i64 a, .int .i64 b, .int .i64 c, .int .i64 d]] w (Quad (ink a d) (ink b d) (ink c d) 65535 w) := by
  have ha := mod256 a
  have hb := mod256 b
  have hc := mod256 c
  have hd := mod256 d
  have ia := inkIn a d
  have ib := inkIn b d
  have ic := inkIn c d
  go_enter Try.func16, Try.ntmps16
  go_wp2_with fail
  refine (cmyk_any _ _ _ _ _).mono ?_
  rintro e w1 ⟨rfl, hg1⟩
  go_wp2_with fail
  refine (cmykRGBA_any _ _ _ _ _ ha.1 ha.2 hb.1 hb.2 hc.1 hc.2 hd.1 hd.2).mono ?_
  rintro e w2 ⟨rfl, hg2⟩
  go_wp2_with fail
  refine (wide_any _ _ _ _ _ ia.1 ia.2 ib.1 ib.2 ic.1 ic.2 (by omega) (by omega)).mono ?_
  rintro e w3 ⟨g, rfl, hge, hbk, hg3⟩
  go_wp2_with fail
  go_ret
  exact Quad.later (((Grows.rfl' _).alloc' _).step (hg1.step hg2)) ⟨g, rfl, hge, hbk, hg3⟩ rfl rfl rfl rfl

set_option maxHeartbeats 400000 in
theorem rgbaWide_any (a b c d : Int) (w : World) :
    Calls Try.prog 23 #[.agg #[.int .i64 a, .int .i64 b, .int .i64 c, .int .i64 d]] w (Quad (a % 256 * 257) (b % 256 * 257) (c % 256 * 257) (d % 256 * 257) w) := by
  have ha := mod256 a
  have hb := mod256 b
  have hc := mod256 c
  have hd := mod256 d
  go_enter Try.func23, Try.ntmps23
  go_wp2_with fail
  refine (rgba_any _ _ _ _ _).mono ?_
  rintro e w1 ⟨rfl, hg1⟩
  go_wp2_with fail
  refine (rgbaRGBA_any _ _ _ _ _ ha.1 ha.2 hb.1 hb.2 hc.1 hc.2 hd.1 hd.2).mono ?_
  rintro e w2 ⟨rfl, hg2⟩
  go_wp2_with fail
  refine (wide_any _ _ _ _ _ (by omega) (by omega) (by omega) (by omega) (by omega) (by omega) (by omega) (by omega)).mono ?_
  rintro e w3 ⟨g, rfl, hge, hbk, hg3⟩
  go_wp2_with fail
  go_ret
  exact Quad.later (((Grows.rfl' _).alloc' _).step (hg1.step hg2)) ⟨g, rfl, hge, hbk, hg3⟩ rfl rfl rfl rfl

/-- Four ints in a block of their own read as a list. -/
theorem quad_reads {a b c d : Int} {w : World} {g : Nat} (h : w.heap[g]? = some (.cells #[.int .i64 a, .int .i64 b, .int .i64 c, .int .i64 d] 3 (0, 0)))
    (ha : 0 ≤ a ∧ a < 65536) (hb : 0 ≤ b ∧ b < 65536) (hc : 0 ≤ c ∧ c < 65536) (hd : 0 ≤ d ∧ d < 65536) : RdI w (.slice (some ⟨g, 0, none⟩) 4 4) [a, b, c, d] := by
  refine ⟨_, 4, rfl, by simp, by omega, by simp, ?_, fun j n hj => ⟨g, 0, rfl, ?_⟩⟩
  · intro n hn
    simp only [List.mem_cons, List.not_mem_nil, or_false] at hn
    rcases hn with rfl | rfl | rfl | rfl <;> omega
  · have hlt : j < 4 := by have := (List.getElem?_eq_some_iff.1 hj).1; simpa using this
    unfold World.cell?
    rw [h]
    rcases j with _ | _ | _ | _ | j
    · simpa using hj
    · simpa using hj
    · simpa using hj
    · simpa using hj
    · omega

/-- A slice of four ints in a block that is known. -/
def Four (a b c d : Int) (v : Value) (w : World) : Prop := ∃ g : Nat, v = .slice (some ⟨g, 0, none⟩) 4 4 ∧ w.heap[g]? = some (.cells #[.int .i64 a, .int .i64 b, .int .i64 c, .int .i64 d] 3 (0, 0))
theorem Four.keep {a b c d : Int} (v : Value) (w w' : World) (hg : Grows w w') (h : Four a b c d v w) : Four a b c d v w' := by
  obtain ⟨g, hv, hb⟩ := h
  have hlt : g < w.heap.size := by
    rcases Nat.lt_or_ge g w.heap.size with h | h
    · exact h
    · rw [Array.getElem?_eq_none h] at hb; cases hb
  exact ⟨g, hv, (hg.block g hlt).trans hb⟩

theorem ink_bd (n k : Int) : 0 ≤ ink n k ∧ ink n k < 65536 := inkIn n k
end Go.Proofs.Ytoiikomjbckibaa

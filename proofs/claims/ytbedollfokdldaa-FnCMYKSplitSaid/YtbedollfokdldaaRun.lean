/-
  The contract of the thin package's CMYKRun: what a script reads, its offsets where all points are visible, and the image that it leaves. Conditions: the rectangle is fine.
-/
import Derived.Test.YtbedollfokdldaaRows2
import Derived.Test.YtbedollfokdldaaRead
import Derived.Test.YtbedollfokdldaaBoxPic
import Derived.Deep.Cut
namespace Go.Proofs.Ytbedollfokdldaa
open Go.RowKit
set_option linter.unusedVariables false

/-- The result of a script. -/
def RunOut (a b c d : Int) (S : St) (W : World) (e : Ending) (w' : World) : Prop :=
  ∃ vc vo vp offs, e = .returned (.tuple #[vc, vo, .agg #[.int .i64 a, .int .i64 b, .int .i64 c, .int .i64 d, .int .i64 (sd a c 4), vp]]) ∧ OwnC W w' vc S.2.2.1 ∧ OwnI W w' vo offs ∧ OwnI W w' vp (bytesOf (total a b c d 4) S.2.1) ∧
    (S.2.2.2.2 = true → offs = S.2.2.2.1) ∧ (offs.length ≤ 1600000000000 ∧ ∀ n ∈ offs, -9223372036854775808 ≤ n ∧ n ≤ 9223372036854775807)

theorem ImgV.keptPx {w w' : World} {a b c d : Int} {ib pb N : Nat} {v : Bx} {f : Nat → Int} (h : ImgV w a b c d ib pb v) (hP : Px w pb N f) (hg : w.grownBy w' (some pb)) : ImgV w' a b c d ib pb v := by
  obtain ⟨pv, st, h1⟩ := h.at
  exact h.block (hg.block ib h.lt fun e => h1.apart hP (by simpa using e))
theorem row_not_px {w : World} {base n pb N k : Nat} {e : TypeId} {size : Nat} {v : Value} {xs : List Value} {f : Nat → Int} (h : w.ownsRow base e size v n xs) (he : e ≠ 5) (hP : Px w pb N f) (hk : v.ownBlock = some k) : k ≠ pb := by
  rintro rfl
  obtain ⟨_, _, cur, h1⟩ := own_block h hk
  obtain ⟨cur2, h2⟩ := px_block hP
  rw [h1] at h2
  simp only [Option.some.injEq, Obj.cells.injEq] at h2
  exact he h2.2.1
theorem row_not_img {w : World} {base n k : Nat} {e : TypeId} {size : Nat} {v pv : Value} {xs : List Value} {ib : Nat} {st a b c d : Int} (h : w.ownsRow base e size v n xs) (he : e ≠ 82) (hI : ImgAt w ib pv st a b c d) (hk : v.ownBlock = some k) : k ≠ ib := by
  rintro rfl
  obtain ⟨_, _, cur, h1⟩ := own_block h hk
  unfold ImgAt at hI
  rw [h1] at hI
  simp only [Option.some.injEq, Obj.cells.injEq] at hI
  exact he hI.2.1
theorem ImgV.keptRow {w w' : World} {a b c d : Int} {ib pb base n : Nat} {v : Bx} {e : TypeId} {size : Nat} {u : Value} {xs : List Value} (h : ImgV w a b c d ib pb v) (hr : w.ownsRow base e size u n xs) (he : e ≠ 82) (hg : w.grownBy w' u.ownBlock) : ImgV w' a b c d ib pb v := by
  obtain ⟨pv, st, h1⟩ := h.at
  exact h.block (hg.block ib h.lt fun e => row_not_img hr he h1 e.symm rfl)
theorem Px.keptRow {w w' : World} {pb base n N : Nat} {f : Nat → Int} {e : TypeId} {size : Nat} {u : Value} {xs : List Value} (h : Px w pb N f) (hr : w.ownsRow base e size u n xs) (he : e ≠ 5) (hg : w.grownBy w' u.ownBlock) : Px w' pb N f :=
  World.rowIs.of_block h (hg.block pb h.lt fun e => row_not_px hr he h e.symm rfl)
theorem Apart.push {w : World} {base n : Nat} {e : TypeId} {size : Nat} {v v' u : Value} {xs : List Value} (h : Apart v u) (hu : w.ownsRow base e size u n xs) (hat : v'.ownBlock = v.ownBlock ∨ v'.ownBlock = some w.heap.size) : Apart v' u := by
  intro k h1 h2
  rcases hat with e | e
  · exact h k (e ▸ h1) h2
  · have := (own_block hu h2).2.1
    rw [e] at h1
    simp only [Option.some.injEq] at h1
    omega
theorem ne_int_u8 : (3 : TypeId) ≠ 5 := by decide
theorem ne_int_img : (3 : TypeId) ≠ 82 := by decide
theorem ne_col_u8 : (46 : TypeId) ≠ 5 := by decide
theorem ne_col_img : (46 : TypeId) ≠ 82 := by decide

/-- Block ib0 is the whole image. -/
def Whole (w : World) (a b c d : Int) (ib0 pb : Nat) : Prop := ImgAt w ib0 (.slice (some ⟨pb, 0, none⟩) (total a b c d 4) (total a b c d 4)) (sd a c 4) a b c d
theorem Whole.grows {w w' : World} {a b c d : Int} {ib0 pb : Nat} (h : Whole w a b c d ib0 pb) (hg : Grows w w') : Whole w' a b c d ib0 pb := ImgAt.grows h hg
theorem Whole.keptPx {w w' : World} {a b c d : Int} {ib0 pb N : Nat} {f : Nat → Int} (h : Whole w a b c d ib0 pb) (hP : Px w pb N f) (hg : w.grownBy w' (some pb)) : Whole w' a b c d ib0 pb := ImgAt.kept h hg (ImgAt.apart h hP)
theorem Whole.keptRow {w w' : World} {a b c d : Int} {ib0 pb base n : Nat} {e : TypeId} {size : Nat} {u : Value} {xs : List Value} (h : Whole w a b c d ib0 pb) (hr : w.ownsRow base e size u n xs) (he : e ≠ 82) (hg : w.grownBy w' u.ownBlock) : Whole w' a b c d ib0 pb :=
  (hg.block ib0 (ImgAt.lt h) fun e => row_not_img hr he h e.symm rfl).trans h
theorem Whole.view {w : World} {a b c d : Int} {ib0 pb : Nat} (h : Whole w a b c d ib0 pb) (hf : Fine a b c d) : ImgV w a b c d ib0 pb (a, b, c, d) :=
  .inr ⟨0, h, by simp only; omega, by omega, by obtain ⟨_, _, h3, _⟩ := hf; simp only; omega⟩

/-- What a round of the loop has. -/
def LoopV (a b c d : Int) (ib0 pb : Nat) (W wr : World) (S : St) (m vc vo : Value) (n : Nat) : Prop :=
  ∃ ib offs, m = .pointer (some ⟨ib, 0, none⟩) ∧ ImgV wr a b c d ib pb S.1 ∧ Whole wr a b c d ib0 pb ∧ Px wr pb (total a b c d 4) S.2.1 ∧ OwnC W wr vc S.2.2.1 ∧ OwnI W wr vo offs ∧ Apart vc vo ∧
    (S.2.2.2.2 = true → offs = S.2.2.2.1) ∧ (offs.length ≤ n ∧ ∀ m ∈ offs, -9223372036854775808 ≤ m ∧ m ≤ 9223372036854775807)

section
variable {a b c d : Int} {ib0 pb : Nat} {W w w' : World} {v : Bx} {f : Nat → Int} {cols : List (List Int)} {offs : List Int} {ok : Bool} {m vc vo : Value} {n : Nat}
theorem LoopV.grows (h : LoopV a b c d ib0 pb W w (v, f, cols, offs, ok) m vc vo n) (hg : Grows w w') : LoopV a b c d ib0 pb W w' (v, f, cols, offs, ok) m vc vo n := by
  obtain ⟨ib, os, h1, h2, h3, h4, h5, h6, h7, h8⟩ := h
  exact ⟨ib, os, h1, h2.grows hg, h3.grows hg, h4.grows hg, h5.later hg, h6.later hg, h7, h8⟩
theorem LoopV.own (h : LoopV a b c d ib0 pb W w (v, f, cols, offs, ok) m vc vo n) : Grows W w := by
  obtain ⟨ib, os, h1, h2, h3, h4, h5, h6, h7, h8⟩ := h
  exact h5.2
theorem LoopV.ptr (h : LoopV a b c d ib0 pb W w (v, f, cols, offs, ok) m vc vo n) : ∃ ib, m = .pointer (some ⟨ib, 0, none⟩) := by
  obtain ⟨ib, os, h1, _⟩ := h
  exact ⟨ib, h1⟩
theorem LoopV.more (h : LoopV a b c d ib0 pb W w (v, f, cols, offs, ok) m vc vo n) : LoopV a b c d ib0 pb W w (v, f, cols, offs, ok) m vc vo (n + 1) := by
  obtain ⟨ib, os, h1, h2, h3, h4, h5, h6, h7, h8, h9, h10⟩ := h
  exact ⟨ib, os, h1, h2, h3, h4, h5, h6, h7, h8, by omega, h10⟩
theorem LoopV.set {g : Nat → Int} {q : Bool} (h : LoopV a b c d ib0 pb W w (v, f, cols, offs, ok) m vc vo n) (hpb : W.heap.size ≤ pb) (hP : Px w' pb (total a b c d 4) g) (hg : w.grownBy w' (some pb)) : LoopV a b c d ib0 pb W w' (v, g, cols, offs, ok && q) m vc vo (n + 1) := by
  obtain ⟨ib, os, h1, h2, h3, h4, h5, h6, h7, h8, h9, h10⟩ := h
  have hr : ∀ k, some pb = some k → W.heap.size ≤ k := fun k e => by simp only [Option.some.injEq] at e; omega
  exact ⟨ib, os, h1, h2.keptPx h4 hg, h3.keptPx h4 hg, hP, h5.kept hg hr (fun k hk e => row_not_px h5.1 ne_col_u8 h4 hk (by simpa using e.symm)), h6.kept hg hr (fun k hk e => row_not_px h6.1 ne_int_u8 h4 hk (by simpa using e.symm)), h7, fun e => h8 (by simp only [Bool.and_eq_true] at e; exact e.1), by omega, h10⟩
theorem LoopV.col {l : List Int} {q : Bool} {vc' : Value} (h : LoopV a b c d ib0 pb W w (v, f, cols, offs, ok) m vc vo n) (hC : OwnC W w' vc' (cols ++ [l])) (hg : w.grownBy w' vc.ownBlock) (hat : vc'.ownBlock = vc.ownBlock ∨ vc'.ownBlock = some w.heap.size) : LoopV a b c d ib0 pb W w' (v, f, cols ++ [l], offs, ok && q) m vc' vo (n + 1) := by
  obtain ⟨ib, os, h1, h2, h3, h4, h5, h6, h7, h8, h9, h10⟩ := h
  exact ⟨ib, os, h1, h2.keptRow h5.1 ne_col_img hg, h3.keptRow h5.1 ne_col_img hg, h4.keptRow h5.1 ne_col_u8 hg, hC, h6.kept hg (fun k hk => (h5.1.lt k hk).1) (fun k hk e => h7 k e hk), h7.push h6.1 hat, fun e => h8 (by simp only [Bool.and_eq_true] at e; exact e.1), by omega, h10⟩
theorem LoopV.off {os : List Int} {o : Int} {k : Int} {q : Bool} {vo' : Value} {ib : Nat} (h1 : m = .pointer (some ⟨ib, 0, none⟩)) (h2 : ImgV w a b c d ib pb v) (h3 : Whole w a b c d ib0 pb) (h4 : Px w pb (total a b c d 4) f) (h5 : OwnC W w vc cols) (h6 : OwnI W w vo os) (h7 : Apart vc vo)
    (h8 : ok = true → os = offs) (h9 : os.length ≤ n) (h10 : ∀ m ∈ os, -9223372036854775808 ≤ m ∧ m ≤ 9223372036854775807) (hO : OwnI W w' vo' (os ++ [o])) (hg : w.grownBy w' vo.ownBlock) (hat : vo'.ownBlock = vo.ownBlock ∨ vo'.ownBlock = some w.heap.size) (hq : q = true → o = k) (ho : I64 o) : LoopV a b c d ib0 pb W w' (v, f, cols, offs ++ [k], ok && q) m vc vo' (n + 1) := by
  refine ⟨ib, os ++ [o], h1, h2.keptRow h6.1 ne_int_img hg, h3.keptRow h6.1 ne_int_img hg, h4.keptRow h6.1 ne_int_u8 hg, h5.kept hg (fun k hk => (h6.1.lt k hk).1) (fun k hk e => h7 k hk e), hO, (h7.symm.push h5.1 hat).symm, fun e => ?_, by simp; omega, ?_⟩
  · simp only [Bool.and_eq_true] at e
    rw [h8 e.1, hq e.2]
  · intro m hm
    simp only [List.mem_append, List.mem_singleton] at hm
    rcases hm with hm | rfl
    · exact h10 m hm
    · exact ho
theorem LoopV.view {u : Bx} {ib : Nat} (h : LoopV a b c d ib0 pb W w (v, f, cols, offs, ok) m vc vo n) (hg : Grows w w') (hI : ImgV w' a b c d ib pb u) : LoopV a b c d ib0 pb W w' (u, f, cols, offs, ok) (.pointer (some ⟨ib, 0, none⟩)) vc vo (n + 1) := by
  obtain ⟨_, os, h1, h2, h3, h4, h5, h6, h7, h8, h9, h10⟩ := h
  exact ⟨ib, os, rfl, hI, h3.grows hg, h4.grows hg, h5.later hg, h6.later hg, h7, h8, by omega, h10⟩
end

theorem OwnC.base {W W' w : World} {v : Value} {xs : List (List Int)} (h : OwnC W' w v xs) (hg : Grows W W') : OwnC W w v xs := by
  refine ⟨⟨h.1.1, ?_⟩, hg.step h.2⟩
  rcases h.1.2 with h2 | ⟨g, cap, cur, hv, hg', r⟩
  · exact .inl h2
  · exact .inr ⟨g, cap, cur, hv, Nat.le_trans hg.size hg', r⟩
theorem ne_col_pic : (46 : TypeId) ≠ 34 := by decide
theorem stored_ownC {W w : World} {pb : Nat} {p : Value} {zs : List (List Int)} {cs : Array Value} (h : OwnC W w p zs) (hb : w.heap[pb]? = some (.cells cs 34 (0, 0))) (hp : W.heap.size ≤ pb) (v0 v1 v2 v3 v4 v5 : Value) : OwnC W (stored w pb v0 v1 v2 v3 v4 v5) p zs := by
  refine h.kept (stored_grown v0 v1 v2 v3 v4 v5) (fun k hk => by simp only [Option.some.injEq] at hk; omega) fun k hk e => ?_
  obtain ⟨_, _, cur, h1⟩ := own_block h.1 hk
  simp only [Option.some.injEq] at e
  subst e
  rw [hb] at h1
  simp only [Option.some.injEq, Obj.cells.injEq] at h1
  exact ne_col_pic h1.2.1.symm

/-- Offsets that the call owns, where they are asked for. -/
def OffIs (os : Option (List Int)) (W w : World) (v : Value) : Prop := ∀ l, os = some l → OwnI W w v l
theorem OffIs.later {os : Option (List Int)} {W w w' : World} {v : Value} (h : OffIs os W w v) (hg : Grows w w') : OffIs os W w' v := fun l hl => (h l hl).later hg
theorem OffIs.base {os : Option (List Int)} {W W0 w : World} {v : Value} (h : OffIs os W w v) (hg : Grows W0 W) : OffIs os W0 w v := fun l hl => (h l hl).base hg
theorem stored_off {W w : World} {pb : Nat} {p : Value} {os : Option (List Int)} {cs : Array Value} (h : OffIs os W w p) (hb : w.heap[pb]? = some (.cells cs 34 (0, 0))) (hp : W.heap.size ≤ pb) (v0 v1 v2 v3 v4 v5 : Value) : OffIs os W (stored w pb v0 v1 v2 v3 v4 v5) p :=
  fun l hl => stored_own (h l hl) hb hp v0 v1 v2 v3 v4 v5
/-- A tuple of colors, offsets and a picture, which the call owns. -/
def TupRun (a b c d st : Int) (cs : List (List Int)) (os : Option (List Int)) (F : List Int) (W : World) (v : Value) (w : World) : Prop := ∃ vc vo vp, v = .tuple #[vc, vo, .agg #[.int .i64 a, .int .i64 b, .int .i64 c, .int .i64 d, .int .i64 st, vp]] ∧ OwnC W w vc cs ∧ OwnI W w vp F ∧ OffIs os W w vo
theorem TupRun.keep {a b c d st : Int} {cs : List (List Int)} {os : Option (List Int)} {F : List Int} {W : World} (v : Value) (w w' : World) (hg : Grows w w') (h : TupRun a b c d st cs os F W v w) : TupRun a b c d st cs os F W v w' := by
  obtain ⟨vc, vo, vp, h1, h2, h3, h4⟩ := h
  exact ⟨vc, vo, vp, h1, h2.later hg, h3.later hg, h4.later hg⟩
theorem TupRun.base {a b c d st : Int} {cs : List (List Int)} {os : Option (List Int)} {F : List Int} {W W0 : World} {v : Value} {w : World} (h : TupRun a b c d st cs os F W v w) (hg : Grows W0 W) : TupRun a b c d st cs os F W0 v w := by
  obtain ⟨vc, vo, vp, h1, h2, h3, h4⟩ := h
  exact ⟨vc, vo, vp, h1, h2.base hg, h3.base hg, h4.base hg⟩

/-- Eleven numbers in memory. -/
def StpAt (w : World) (sb : Nat) (s : Stp) : Prop := ∀ i n, (nums s)[i]? = some n → w.cell? ⟨sb, i, none⟩ = some (.int .i64 n)
theorem StpAt.grows {w w' : World} {sb : Nat} {s : Stp} (h : StpAt w sb s) (hg : Grows w w') : StpAt w' sb s := fun i n hi => hg.cell_some (h i n hi)

theorem StpAt.top {w : World} {T : TypeId} {sb : Nat} (s : Stp) (hb : sb = w.heap.size) : StpAt (w.alloc (.cells ((nums s).map (Value.int .i64)).toArray T)) sb s := fun i n hi => cell_top hb (by
  rw [List.getElem?_toArray, List.getElem?_map, hi]
  rfl)
theorem StpAt.cells {w : World} {sb : Nat} {k x y r g bl al x0 y0 x1 y1 : Int} (h : StpAt w sb (k, x, y, (r, g, bl, al), (x0, y0, x1, y1))) :
    w.cell? ⟨sb, 0, none⟩ = some (.int .i64 k) ∧ w.cell? ⟨sb, 1, none⟩ = some (.int .i64 x) ∧ w.cell? ⟨sb, 2, none⟩ = some (.int .i64 y) ∧ w.cell? ⟨sb, 3, none⟩ = some (.int .i64 r) ∧ w.cell? ⟨sb, 4, none⟩ = some (.int .i64 g) ∧ w.cell? ⟨sb, 5, none⟩ = some (.int .i64 bl) ∧ w.cell? ⟨sb, 6, none⟩ = some (.int .i64 al) ∧ w.cell? ⟨sb, 7, none⟩ = some (.int .i64 x0) ∧ w.cell? ⟨sb, 8, none⟩ = some (.int .i64 y0) ∧ w.cell? ⟨sb, 9, none⟩ = some (.int .i64 x1) ∧ w.cell? ⟨sb, 10, none⟩ = some (.int .i64 y1) :=
  ⟨h 0 _ rfl, h 1 _ rfl, h 2 _ rfl, h 3 _ rfl, h 4 _ rfl, h 5 _ rfl, h 6 _ rfl, h 7 _ rfl, h 8 _ rfl, h 9 _ rfl, h 10 _ rfl⟩

set_option maxRecDepth 20000 in
set_option maxHeartbeats 4000000 in
theorem implRun (a b c d : Int) (v : Value) (zs : List Int) (vs : Value) (ss : List Stp) (w : World) (hf : Fine a b c d) (h : RdI w v zs) (hs : RdS w vs ss) :
    Calls Try.prog 14 #[box4 a b c d, v, vs] w (RunOut a b c d (runF a b c d 4 (byteAt zs) ss) w) := by
  have HR := Lib.hid h
  have HF := Lib.hid hf
  have htl := total_le (k := 4) (by omega) hf
  obtain ⟨A, cc, rfl, _⟩ := h
  obtain ⟨A1, c1, rfl, hs1, hs2, hs3, hs4, hs5⟩ := hs
  have HS4 := Lib.hid hs4
  have HS5 := Lib.hid hs5
  clear hf hs4 hs5
  go_enter Try.func14, Try.ntmps14
  go_wp2_with fail
  refine (mk_any _ _ _ _ _ zs _ HF.out (HR.out.grows (((Grows.rfl' w).alloc' _).alloc' _))).mono ?_
  rintro e w1 ⟨ib0, pb, rfl, hib, hpb, him, hpx, hg1⟩
  have HGW : Hid (Grows w ((w.alloc (.cells #[.int .i64 a, .int .i64 b, .int .i64 c, .int .i64 d] 26)).alloc (.cells #[.int .i64 0, .int .i64 0, .int .i64 0, .int .i64 0, .int .i64 0, .slice none 0 0] 34))) := ((Grows.rfl' w).alloc' _).alloc' _
  have HL0 : Hid (LoopV a b c d ib0 pb ((w.alloc (.cells #[.int .i64 a, .int .i64 b, .int .i64 c, .int .i64 d] 26)).alloc (.cells #[.int .i64 0, .int .i64 0, .int .i64 0, .int .i64 0, .int .i64 0, .slice none 0 0] 34)) w1 (runF a b c d 4 (byteAt zs) (ss.take 0)) (.pointer (some ⟨ib0, 0, none⟩)) (.slice none 0 0) (.slice none 0 0) 0) := by
    have hI : Whole w1 a b c d ib0 pb := him
    exact ⟨ib0, [], rfl, hI.view HF.out, hI, hpx, OwnC.nil hg1, OwnI.nil hg1, Apart.nil _, fun _ => rfl, by simp, by simp⟩
  have hszW : ((w.alloc (.cells #[.int .i64 a, .int .i64 b, .int .i64 c, .int .i64 d] 26)).alloc (.cells #[.int .i64 0, .int .i64 0, .int .i64 0, .int .i64 0, .int .i64 0, .slice none 0 0] 34)).heap.size = w.heap.size + 2 := by simp
  have hb0 : ((w.alloc (.cells #[.int .i64 a, .int .i64 b, .int .i64 c, .int .i64 d] 26)).alloc (.cells #[.int .i64 0, .int .i64 0, .int .i64 0, .int .i64 0, .int .i64 0, .slice none 0 0] 34)).heap[w.heap.size + 1]? = some (.cells #[.int .i64 0, .int .i64 0, .int .i64 0, .int .i64 0, .int .i64 0, .slice none 0 0] 34 (0, 0)) := heap_top (by simp)
  have HBX := Lib.hid hb0
  clear him hpx hg1 hb0
  generalize ((w.alloc (.cells #[.int .i64 a, .int .i64 b, .int .i64 c, .int .i64 d] 26)).alloc (.cells #[.int .i64 0, .int .i64 0, .int .i64 0, .int .i64 0, .int .i64 0, .slice none 0 0] 34)) = W at *
  go_wp2_with fail
  go_loopw [10, 11, 12, 14, 21] (fun m vc vo _ iv wr => ∃ j : Nat, j ≤ ss.length ∧ iv = .int .i64 j ∧ LoopV a b c d ib0 pb W wr (runF a b c d 4 (byteAt zs) (ss.take j)) m vc vo j) (fun _ _ _ _ iv _ => ss.length - (intOf iv).toNat)
  case atStart => exact ⟨0, Nat.zero_le _, rfl, HL0.out⟩
  case round =>
    obtain ⟨j, hj, rfl, hlv⟩ := hrel
    clear HL0
    by_cases hlt : j < ss.length
    · have he : ss[j]? = some ss[j] := List.getElem?_eq_getElem hlt
      have HN := Lib.hid (runF_snoc a b c d 4 (byteAt zs) he)
      have HOK := Lib.hid (runF_okay (k := 4) (f := byteAt zs) ⟨HF.out.2.2.1.1, HF.out.2.2.1.2⟩ (byteAt_in zs) ss j hj)
      obtain ⟨bb, oo, rfl, hcell⟩ := HS5.out j _ he
      have hb3 : decide ((j : Int) < ss.length) = true := decide_eq_true (by omega)
      generalize runF a b c d 4 (byteAt zs) (ss.take j) = S at *
      generalize ss[j] = s at *
      obtain ⟨t, x, y, ⟨r, g, bl, al⟩, ⟨x0, y0, x1, y1⟩⟩ := s
      obtain ⟨v, f, cols, offs', ok⟩ := S
      have hgr := HGW.out.step hlv.own
      have cc0 := hgr.cell_some (hcell 0 _ rfl)
      have cc1 := hgr.cell_some (hcell 1 _ rfl)
      have cc2 := hgr.cell_some (hcell 2 _ rfl)
      have cc3 := hgr.cell_some (hcell 3 _ rfl)
      have cc4 := hgr.cell_some (hcell 4 _ rfl)
      have cc5 := hgr.cell_some (hcell 5 _ rfl)
      have cc6 := hgr.cell_some (hcell 6 _ rfl)
      have cc7 := hgr.cell_some (hcell 7 _ rfl)
      have cc8 := hgr.cell_some (hcell 8 _ rfl)
      have cc9 := hgr.cell_some (hcell 9 _ rfl)
      have cc10 := hgr.cell_some (hcell 10 _ rfl)
      simp only [Nat.add_zero] at cc0
      obtain ⟨ib, hmp⟩ := hlv.ptr
      have HLV := Lib.hid hlv
      clear hlv hcell he hgr
      subst hmp
      go_upto_region 8 with fail
      clear cc0 cc1 cc2 cc3 cc4 cc5 cc6 cc7 cc8 cc9 cc10
      have hga : Grows wr (wr.alloc (.cells #[.int .i64 t, .int .i64 x, .int .i64 y, .int .i64 r, .int .i64 g, .int .i64 bl, .int .i64 al, .int .i64 x0, .int .i64 y0, .int .i64 x1, .int .i64 y1] 48)) := (Grows.rfl' _).alloc' _
      have HSB : Hid (StpAt (wr.alloc (.cells #[.int .i64 t, .int .i64 x, .int .i64 y, .int .i64 r, .int .i64 g, .int .i64 bl, .int .i64 al, .int .i64 x0, .int .i64 y0, .int .i64 x1, .int .i64 y1] 48)) wr.heap.size (t, x, y, (r, g, bl, al), (x0, y0, x1, y1))) := fun i n hi => cell_top rfl (by
        simp only [nums] at hi
        match i, hi with
        | 0, hi => simpa using hi
        | 1, hi => simpa using hi
        | 2, hi => simpa using hi
        | 3, hi => simpa using hi
        | 4, hi => simpa using hi
        | 5, hi => simpa using hi
        | 6, hi => simpa using hi
        | 7, hi => simpa using hi
        | 8, hi => simpa using hi
        | 9, hi => simpa using hi
        | 10, hi => simpa using hi
        | i + 11, hi => simp at hi)
      replace HLV := Lib.hid (HLV.out.grows hga)
      clear hga
      generalize wr.alloc (.cells #[.int .i64 t, .int .i64 x, .int .i64 y, .int .i64 r, .int .i64 g, .int .i64 bl, .int .i64 al, .int .i64 x0, .int .i64 y0, .int .i64 x1, .int .i64 y1] 48) = w2 at *
      generalize wr.heap.size = sb at *
      have s0 := HSB.out 0 _ rfl
      have s1 := HSB.out 1 _ rfl
      have s2 := HSB.out 2 _ rfl
      have s3 := HSB.out 3 _ rfl
      have s4 := HSB.out 4 _ rfl
      have s5 := HSB.out 5 _ rfl
      have s6 := HSB.out 6 _ rfl
      have s7 := HSB.out 7 _ rfl
      have s8 := HSB.out 8 _ rfl
      have s9 := HSB.out 9 _ rfl
      have s10 := HSB.out 10 _ rfl
      by_cases t1 : t = 1
      · subst t1
        go_upto_region 10 with fail
        apply wp_region_lex_lit 8 (by kernel_rfl) (by kernel_rfl)
        iterate 8
          apply lex_pin
          · intro wq hgq hdq Kq hKq
            have s1 := (HSB.out.grows ((Grows.rfl' _).drew'.step hgq)) 1 _ rfl
            have s2 := (HSB.out.grows ((Grows.rfl' _).drew'.step hgq)) 2 _ rfl
            have s3 := (HSB.out.grows ((Grows.rfl' _).drew'.step hgq)) 3 _ rfl
            have s4 := (HSB.out.grows ((Grows.rfl' _).drew'.step hgq)) 4 _ rfl
            have s5 := (HSB.out.grows ((Grows.rfl' _).drew'.step hgq)) 5 _ rfl
            have s6 := (HSB.out.grows ((Grows.rfl' _).drew'.step hgq)) 6 _ rfl
            go_wp2_with ((go_at_call 31; refine (col_any _ _ _ _ _).mono ?_); rintro e wq' ⟨rfl, hgq'⟩)
            first | exact hKq _ (Grows.rfl' _) | exact hKq _ hgq'
          · kernel_rfl
        refine lex_end ?_
        intro w2' hg2' _
        have HLS := Lib.hid (HLV.out.grows ((Grows.rfl' _).drew'.step hg2'))
        clear hg2'
        have HSET : Hid (Calls Try.prog 30 #[.pointer (some ⟨ib, 0, none⟩), .int .i64 x, .int .i64 y, .agg #[.int .u8 (r % 256), .int .u8 (g % 256), .int .u8 (bl % 256), .int .u8 (al % 256)]] w2' fun e w' => e = .returned (.tuple #[]) ∧ Px w' pb (total a b c d 4) (putV a b c 4 v f x y (lows 4 (r, g, bl, al))) ∧ w2'.grownBy w' (some pb)) := by obtain ⟨ib', offs, hib', hI, hI0, hP, _⟩ := HLS.out; obtain rfl : ib = ib' := (by simpa using hib'); exact setV a b c d x y ib pb v (r, g, bl, al) f w2' HF.out hI hP
        go_wp2_with fail
        refine HSET.out.mono ?_
        rintro e w3 ⟨rfl, hpx, hgr⟩
        have HL3 := Lib.hid (HLS.out.set (q := decide (InB v x y)) hpb hpx hgr)
        clear hpx hgr s0 s1 s2 s3 s4 s5 s6 s7 s8 s9 s10
        go_wp2_with fail
        go_roundw
        case rel => exact ⟨j + 1, by omega, by go_num, by rw [HN.out]; exact HL3.out⟩
        case measure => simp [intOf]; omega
      by_cases t2 : t = 2
      · subst t2
        obtain ⟨ib', offs, hib', hI, hI0, hP, hC, hO, hA, hok, hol, hoi⟩ := HLV.out
        obtain rfl : ib = ib' := by simpa using hib'
        have HAT := Lib.hid (atV a b c d x y ib pb v f w2 HF.out hI hP)
        have hcl : cols.length ≤ j := HOK.out.2.2.1
        have HGV : Hid (∀ i, 0 ≤ getV a b c 4 v f x y i ∧ getV a b c 4 v f x y i ≤ 255) := fun i => getV_in255 HOK.out.2.1 i
        clear hI hI0 hP hC hO hA hok hol hoi hib'
        go_wp2_with fail
        refine HAT.out.mono ?_
        rintro e w3 ⟨rfl, hg3⟩
        have HL3 := Lib.hid (HLV.out.grows hg3)
        clear hg3 s0 s1 s2 s3 s4 s5 s6 s7 s8 s9 s10
        have hu0 := HGV.out 0
        have hu1 := HGV.out 1
        have hu2 := HGV.out 2
        have hu3 := HGV.out 3
        have HU0 : Hid (bytesOf 4 (getV a b c 4 v f x y) = [getV a b c 4 v f x y 0, getV a b c 4 v f x y 1, getV a b c 4 v f x y 2, getV a b c 4 v f x y 3]) := Lib.hid rfl
        generalize getV a b c 4 v f x y 0 = u0 at *
        generalize getV a b c 4 v f x y 1 = u1 at *
        generalize getV a b c 4 v f x y 2 = u2 at *
        generalize getV a b c 4 v f x y 3 = u3 at *
        go_wp2_with fail
        refine (from_any _ _ _ _ _ hu0 hu1 hu2 hu3).mono ?_
        rintro e w3' ⟨rfl, hg3'⟩
        have HL4 := Lib.hid (HL3.out.grows (hg3'.alloc' (.cells #[.int .i64 u0, .int .i64 u1, .int .i64 u2, .int .i64 u3] 46)))
        have HC4 : Hid (OwnC W (w3'.alloc (.cells #[.int .i64 u0, .int .i64 u1, .int .i64 u2, .int .i64 u3] 46)) u11 cols) := by obtain ⟨_, _, _, _, _, _, hC, _⟩ := HL4.out; exact hC
        clear hg3'
        go_wp2_with (at_builtin; refine pushC_at rfl _ _ rfl W _ cols [u0, u1, u2, u3] rfl rfl HC4.out w3'.heap.size rfl (by intro i m hi; match i, hi with | 0, hi => simp at hi; subst hi; simp | 1, hi => simp at hi; subst hi; simp | 2, hi => simp at hi; subst hi; simp | 3, hi => simp at hi; subst hi; simp | i + 4, hi => simp at hi) (by omega) ?_; intro vc' w4 hC4 hg4 hat4)
        have HL5 := Lib.hid (HL4.out.col (q := decide (InB v x y)) hC4 hg4 hat4)
        have HL6 : Hid (LoopV a b c d ib0 pb W w4 (v, f, cols ++ [bytesOf 4 (getV a b c 4 v f x y)], offs', ok && decide (InB v x y)) (.pointer (some ⟨ib, 0, none⟩)) vc' u12 (j + 1)) := by rw [HU0.out]; exact HL5.out
        go_roundw
        case rel => exact ⟨j + 1, by omega, by go_num, by rw [HN.out]; exact HL6.out⟩
        case measure => simp [intOf]; omega
      by_cases t3 : t = 3
      · subst t3
        obtain ⟨ib', offs, hib', hI, hI0, hP, hC, hO, hA, hok, hol, hoi⟩ := HLV.out
        obtain rfl : ib = ib' := by simpa using hib'
        have HOF := Lib.hid (offV_any a b c d x y ib pb v w2 HF.out hI)
        clear hI hI0 hP hC hO hA hok hol hoi hib'
        go_wp2_with fail
        refine HOF.out.mono ?_
        rintro e w3 ⟨n, rfl, hn, hno, hg3⟩
        have HNO := Lib.hid (And.intro hn hno)
        have HL3 := Lib.hid (HLV.out.grows (hg3.alloc' (.cells #[.int .i64 n] 3)))
        obtain ⟨ib', offs, hall⟩ := HL3.out
        have HALL := Lib.hid hall
        have hol := hall.2.2.2.2.2.2.2.2.1
        clear hall hg3 hn hno s0 s1 s2 s3 s4 s5 s6 s7 s8 s9 s10
        go_wp2_with (at_builtin; refine pushI_at rfl _ _ rfl W _ offs n rfl HALL.out.2.2.2.2.2.1 w3.heap.size rfl (by simp) (by omega) ?_; intro vo' w4 hO4 hg4 hat4)
        have HL5 : Hid (LoopV a b c d ib0 pb W w4 (v, f, cols, offs' ++ [offV a c 4 v x y], ok && decide (InB v x y)) (.pointer (some ⟨ib, 0, none⟩)) u11 vo' (j + 1)) := by
          obtain ⟨hib', hI, hI0, hP, hC, hO, hA, hok, hol, hoi⟩ := HALL.out
          exact LoopV.off hib' hI hI0 hP hC hO hA hok hol hoi hO4 hg4 hat4 (fun e => HNO.out.2 (of_decide_eq_true e)) HNO.out.1
        go_roundw
        case rel => exact ⟨j + 1, by omega, by go_num, by rw [HN.out]; exact HL5.out⟩
        case measure => simp [intOf]; omega
      by_cases t4 : t = 4
      · subst t4
        have has := assert_img
        go_wp2_with fail
        refine (rectangle_any _ _ _ _ _).mono ?_
        rintro e w3 ⟨rfl, hg3⟩
        have HL3 := Lib.hid (HLV.out.grows hg3)
        clear hg3 s0 s1 s2 s3 s4 s5 s6 s7 s8 s9 s10
        have HSUB : Hid (Calls Try.prog 35 #[.pointer (some ⟨ib, 0, none⟩), box4 x0 y0 x1 y1] w3 fun e w' => ∃ ib', e = .returned (.iface 62 (.pointer (some ⟨ib', 0, none⟩))) ∧ w3.heap.size ≤ ib' ∧ ImgV w' a b c d ib' pb (interB v (x0, y0, x1, y1)) ∧ Grows w3 w') := by
          obtain ⟨ib', offs, hib', hI, _⟩ := HL3.out
          obtain rfl : ib = ib' := by simpa using hib'
          exact subV a b c d ib pb v (x0, y0, x1, y1) w3 HF.out hI
        go_wp2_with fail
        refine HSUB.out.mono ?_
        rintro e w4 ⟨ib', rfl, _, hI4, hg4⟩
        have HL5 := Lib.hid (HL3.out.view hg4 hI4)
        clear hI4 hg4
        go_wp2_with fail
        go_roundw
        case rel => exact ⟨j + 1, by omega, by go_num, by rw [HN.out]; exact HL5.out⟩
        case measure => simp [intOf]; omega
      by_cases t5 : t = 5
      · subst t5
        have HL5 : Hid (LoopV a b c d ib0 pb W w2 ((a, b, c, d), f, cols, offs', ok) (.pointer (some ⟨ib0, 0, none⟩)) u11 u12 (j + 1)) := HLV.out.view (Grows.rfl' _) (by
          obtain ⟨ib', offs, hib', hI, hI0, _⟩ := HLV.out
          exact hI0.view HF.out)
        go_wp2_with fail
        go_roundw
        case rel => exact ⟨j + 1, by omega, by go_num, by rw [HN.out]; exact HL5.out⟩
        case measure => simp [intOf]; omega
      · have b1 : (t == 1) = false := by simp [t1]
        have b2 : (t == 2) = false := by simp [t2]
        have b3 : (t == 3) = false := by simp [t3]
        have b4 : (t == 4) = false := by simp [t4]
        have b5 : (t == 5) = false := by simp [t5]
        have hst : stp a b c d 4 (v, f, cols, offs', ok) (t, x, y, (r, g, bl, al), (x0, y0, x1, y1)) = (v, f, cols, offs', ok) := by
          simp only [stp, if_neg t1, if_neg t2, if_neg t3, if_neg t4, if_neg t5]
        have HST := Lib.hid hst
        clear hst
        have HL5 := Lib.hid HLV.out.more
        clear t1 t2 t3 t4 t5
        go_wp2_with fail
        go_roundw
        case rel => exact ⟨j + 1, by omega, by go_num, by rw [HN.out, HST.out]; exact HL5.out⟩
        case measure => simp [intOf]; omega
    · have hjl : j = ss.length := by omega
      have hb3 : decide ((j : Int) < ss.length) = false := decide_eq_false (by omega)
      rw [hjl, List.take_length] at hlv
      have HOK := Lib.hid (runF_okay (k := 4) (f := byteAt zs) ⟨HF.out.2.2.1.1, HF.out.2.2.1.2⟩ (byteAt_in zs) ss ss.length (Nat.le_refl _))
      rw [List.take_length] at HOK
      have HLV := Lib.hid hlv
      obtain ⟨ib, offs, hall⟩ := hlv
      have HALL := Lib.hid hall
      clear hall HS4 HS5 hjl
      generalize runF a b c d 4 (byteAt zs) ss = S at *
      have HRD : Hid (RdB wr (.slice (some ⟨pb, 0, none⟩) (total a b c d 4) (total a b c d 4)) (bytesOf (total a b c d 4) S.2.1)) := by
        have := HALL.out.2.2.2.1.rd (o := 0) (bytesOf (total a b c d 4) S.2.1) (total a b c d 4) (by rw [bytesOf_length]; omega) (by omega) (by rw [bytesOf_length]; omega)
          (bytesOf_in (fun i _ => HOK.out.2.1 i)) (by rw [bytesOf_length]; omega) (fun j n hj => by rw [Nat.zero_add]; exact (bytesOf_get hj).2)
        rw [bytesOf_length] at this
        exact this
      have HW : Hid (Whole wr a b c d ib0 pb) := HALL.out.2.2.1
      have HGR : Hid (Grows W wr) := HALL.out.2.2.2.2.1.2
      obtain ⟨Ac, kc, hvc⟩ := HALL.out.2.2.2.2.1.form
      obtain ⟨Ao, ko, hvo⟩ := HALL.out.2.2.2.2.2.1.form
      subst hvc hvo
      obtain ⟨F, hFF⟩ : ∃ F, F = bytesOf (total a b c d 4) S.2.1 := ⟨_, rfl⟩
      have HFF := Lib.hid hFF
      rw [← hFF] at HRD
      clear hFF
      go_upto_region 20 with fail
      apply wp_region_lex_lit 17 (by kernel_rfl) (by kernel_rfl)
      iterate 14
        apply lex_pin
        · intro wq hgq hdq Kq hKq
          obtain ⟨q0, q1, q2, q3, q4, q5⟩ := (ImgAt.grows HW.out ((Grows.rfl' _).drew'.step hgq)).cells
          go_wp2
          exact hKq _ (Grows.rfl' _)
        · kernel_rfl
      apply lex_any (fun v wx => ∃ v', v = .agg #[.int .i64 a, .int .i64 b, .int .i64 c, .int .i64 d, .int .i64 (sd a c 4), v'] ∧ OwnI wr wx v' F) ((fun v x y hg ⟨v', h1, h2⟩ => ⟨v', h1, h2.later hg⟩))
      · intro wq hgq hdq Kq hKq
        go_wp2_with fail
        refine (picture_any _ _ _ _ _ _ _ _ (HRD.out.grows ((Grows.rfl' _).drew'.step hgq))).mono ?_
        rintro e wq' ⟨v', rfl, ho⟩
        go_wp2_with fail
        exact hKq _ _ ho.2 ⟨v', rfl, ho.base ((Grows.rfl' _).drew'.step hgq)⟩
      intro v19
      simp only [Act.put, List.setIfInBounds_toArray, List.set_cons_succ, List.set_cons_zero]
      iterate 2
        apply lex_pinv
        · intro wq hgq hdq Kq hKq
          go_wp2
          exact hKq _ (Grows.rfl' _)
        simp only [Act.put, List.setIfInBounds_toArray, List.set_cons_succ, List.set_cons_zero]
      refine lex_end ?_
      intro w4 hg4 hd4
      obtain ⟨v', rfl, ho⟩ := hd4 14 _ rfl
      clear hd4
      obtain ⟨A2, c2, rfl⟩ := ho.form
      have hgW4 : Grows W w4 := HGR.out.drew'.step hg4
      have hb4 : w4.heap[w.heap.size + 1]? = some (.cells #[.int .i64 0, .int .i64 0, .int .i64 0, .int .i64 0, .int .i64 0, .slice none 0 0] 34 (0, 0)) := (hgW4.block _ (by omega)).trans HBX.out
      obtain ⟨e0, e1, e2, e3, e4, e5⟩ := block_cells hb4
      have z5 := block_frozen hb4
      have HOP := Lib.hid (stored_own (ho.base (HGW.out.step HGR.out)) hb4 (by omega) (.int .i64 a) (.int .i64 b) (.int .i64 c) (.int .i64 d) (.int .i64 (sd a c 4)) (.slice A2 F.length c2))
      have HOO := Lib.hid (stored_own ((HALL.out.2.2.2.2.2.1.later ((Grows.rfl' _).drew'.step hg4)).base HGW.out) hb4 (by omega) (.int .i64 a) (.int .i64 b) (.int .i64 c) (.int .i64 d) (.int .i64 (sd a c 4)) (.slice A2 F.length c2))
      have HOC := Lib.hid (stored_ownC ((HALL.out.2.2.2.2.1.later ((Grows.rfl' _).drew'.step hg4)).base HGW.out) hb4 (by omega) (.int .i64 a) (.int .i64 b) (.int .i64 c) (.int .i64 d) (.int .i64 (sd a c 4)) (.slice A2 F.length c2))
      have HOL : Hid ((S.2.2.2.2 = true → offs = S.2.2.2.1) ∧ (offs.length ≤ 1600000000000 ∧ ∀ n ∈ offs, -9223372036854775808 ≤ n ∧ n ≤ 9223372036854775807)) := ⟨HALL.out.2.2.2.2.2.2.2.1, by have := HALL.out.2.2.2.2.2.2.2.2.1; omega, HALL.out.2.2.2.2.2.2.2.2.2⟩
      clear hb4 ho hgW4 hg4 HALL HRD HW HGR HOK HLV HBX HF HR
      go_wp2_with fail
      refine bodyPost_ret (v := .tuple #[.slice Ac S.2.2.1.length kc, .slice Ao offs.length ko, .agg #[.int .i64 a, .int .i64 b, .int .i64 c, .int .i64 d, .int .i64 (sd a c 4), .slice A2 F.length c2]]) (by simp [results, Try.results14, go_sem, e0, e1, e2, e3, e4, e5]) rfl ⟨_, _, _, offs, rfl, HOC.out, HOO.out, by rw [← HFF.out]; exact HOP.out, HOL.out⟩
end Go.Proofs.Ytbedollfokdldaa

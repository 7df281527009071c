/-
  The contract of the reference's run: what a script reads, its offsets where all points are visible, and the image that it leaves. Conditions: the rectangle is fine.
-/
import Derived.Test.YtbedollfokdldaaRun
import Derived.Test.YtbedollfokdldaaPaint
import Derived.Test.YtbedollfokdldaaInter
import Derived.Laws.CopyOwn
import Derived.Deep.Cut
import Derived.Deep.CutRange
namespace Go.Proofs.Ytbedollfokdldaa
open Go.RowKit
set_option linter.unusedVariables false

theorem ne_of_type {w : World} {b b' : Nat} {cur cur' : Array Value} {T T' : TypeId} {z z' : Nat × Nat} (h : w.heap[b]? = some (.cells cur T z)) (h' : w.heap[b']? = some (.cells cur' T' z')) (hT : T ≠ T') : b ≠ b' := by
  rintro rfl
  rw [h] at h'
  simp only [Option.some.injEq, Obj.cells.injEq] at h'
  exact hT h'.2.1
theorem ix_block {w : World} {g n : Nat} {f : Nat → Int} (h : Ix w g n f) : ∃ cur, w.heap[g]? = some (.cells cur 3 (0, 0)) := by
  obtain ⟨cur, h1, _⟩ := h
  exact ⟨cur, h1⟩
theorem Ix.block {w w' : World} {g n : Nat} {f : Nat → Int} (h : Ix w g n f) (hb : w'.heap[g]? = w.heap[g]?) : Ix w' g n f := World.rowIs.of_block h hb
theorem ne1 : (3 : TypeId) ≠ 34 := by decide
theorem ne2 : (3 : TypeId) ≠ 26 := by decide
theorem ne3 : (3 : TypeId) ≠ 24 := by decide
theorem ne4 : (24 : TypeId) ≠ 34 := by decide
theorem ne5 : (24 : TypeId) ≠ 26 := by decide
theorem ne6 : (26 : TypeId) ≠ 34 := by decide

/-- Rows of numbers that the call owns, apart from block g and from the offsets. -/
def ColsAt (W w : World) (g : Nat) (vo vc : Value) (cols : List (List Int)) : Prop :=
  ∃ vals : List Value, w.ownsRow W.heap.size 24 1 vc cols.length vals ∧ ∀ (j : Nat) (l : List Int), cols[j]? = some l → ∃ gj : Nat, vals[j]? = some (Value.slice (some ⟨gj, 0, none⟩) 4 4) ∧ Ix w gj 4 (fun i => l.getD i 0) ∧ gj ≠ g ∧ vo.ownBlock ≠ some gj

/-- What a round of the reference's loop has. -/
def LoopS (a b c d : Int) (g ab sb : Nat) (W w : World) (S : St) (sv vc vo : Value) (n : Nat) : Prop :=
  ∃ offs so, PicAt w ab a b c d (sd a c 4) (.slice (some ⟨g, 0, none⟩) (total a b c d 4) (total a b c d 4)) ∧ Ix w g (total a b c d 4) S.2.1 ∧ Blk4 w sb 26 S.1.1 S.1.2.1 S.1.2.2.1 S.1.2.2.2 ∧
    (sv = .bool so ∧ (so = false → S.1 = (0, 0, 0, 0))) ∧ ColsAt W w g vo vc S.2.2.1 ∧ OwnI W w vo offs ∧ vo.ownBlock ≠ some g ∧ (S.2.2.2.2 = true → offs = S.2.2.2.1) ∧ (offs.length ≤ n ∧ ∀ m ∈ offs, -9223372036854775808 ≤ m ∧ m ≤ 9223372036854775807)

section
variable {a b c d : Int} {g ab sb : Nat} {W w w' : World} {v : Bx} {f : Nat → Int} {cols : List (List Int)} {offs : List Int} {ok : Bool} {sv vc vo : Value} {n : Nat}

/-- One block's turn leaves the others. -/
theorem ColsAt.kept {row : Option Nat} (h : ColsAt W w g vo vc cols) (hg : w.grownBy w' row) (h1 : ∀ k, vc.ownBlock = some k → row ≠ some k) (h2 : ∀ gj, gj ≠ g → vo.ownBlock ≠ some gj → (∃ cur, w.heap[gj]? = some (.cells cur 3 (0, 0))) → row ≠ some gj) : ColsAt W w' g vo vc cols := by
  obtain ⟨vals, ho, hr⟩ := h
  refine ⟨vals, ho.kept hg ?_, fun j l hj => ?_⟩
  · cases hb : vc.ownBlock with
    | none => exact .inl rfl
    | some k => exact .inr fun e => h1 k hb e.symm
  · obtain ⟨gj, e1, e2, e3, e4⟩ := hr j l hj
    exact ⟨gj, e1, e2.block (hg.block gj e2.lt fun e => h2 gj e3 e4 (ix_block e2) e.symm), e3, e4⟩
theorem ColsAt.base {W0 : World} (h : ColsAt W w g vo vc cols) (hg : Grows W0 W) : ColsAt W0 w g vo vc cols := by
  obtain ⟨vals, ho, hr⟩ := h
  refine ⟨vals, ⟨ho.1, ?_⟩, hr⟩
  rcases ho.2 with h2 | ⟨g, cap, cur, hv, hg', r⟩
  · exact .inl h2
  · exact .inr ⟨g, cap, cur, hv, Nat.le_trans hg.size hg', r⟩
theorem LoopS.own (h : LoopS a b c d g ab sb W w (v, f, cols, offs, ok) sv vc vo n) : Grows W w := by
  obtain ⟨os, so, h1, h2, h3, h4, h5, h6, h7⟩ := h
  exact h6.2
theorem LoopS.grows (h : LoopS a b c d g ab sb W w (v, f, cols, offs, ok) sv vc vo n) (hg : Grows w w') : LoopS a b c d g ab sb W w' (v, f, cols, offs, ok) sv vc vo n := by
  obtain ⟨os, so, h1, h2, h3, h4, h5, h6, h7⟩ := h
  exact ⟨os, so, h1.grows hg, h2.grows hg, h3.grows hg, h4, h5.kept (grown_of (row := none) hg) (fun k hk => by simp) (fun gj _ _ _ => by simp), h6.later hg, h7⟩
theorem LoopS.more (h : LoopS a b c d g ab sb W w (v, f, cols, offs, ok) sv vc vo n) : LoopS a b c d g ab sb W w (v, f, cols, offs, ok) sv vc vo (n + 1) := by
  obtain ⟨os, so, h1, h2, h3, h4, h5, h6, h7, h8, h9, h10⟩ := h
  exact ⟨os, so, h1, h2, h3, h4, h5, h6, h7, h8, by omega, h10⟩
theorem LoopS.lag {q : Bool} (h : LoopS a b c d g ab sb W w (v, f, cols, offs, ok) sv vc vo n) : LoopS a b c d g ab sb W w (v, f, cols, offs, ok && q) sv vc vo (n + 1) := by
  obtain ⟨os, so, h1, h2, h3, h4, h5, h6, h7, h8, h9, h10⟩ := h
  exact ⟨os, so, h1, h2, h3, h4, h5, h6, h7, fun e => h8 (by simp only [Bool.and_eq_true] at e; exact e.1), by omega, h10⟩
theorem LoopS.set {k : Nat → Int} {q : Bool} (h : LoopS a b c d g ab sb W w (v, f, cols, offs, ok) sv vc vo n) (hgW : W.heap.size ≤ g) (hx : Ix w' g (total a b c d 4) k) (hg : w.grownBy w' (some g)) : LoopS a b c d g ab sb W w' (v, k, cols, offs, ok && q) sv vc vo (n + 1) := by
  obtain ⟨os, so, h1, h2, h3, h4, h5, h6, h7, h8, h9, h10⟩ := h
  obtain ⟨cur, hgb⟩ := ix_block h2
  have e1 : g ≠ ab := ne_of_type hgb h1 ne1
  have e2 : g ≠ sb := ne_of_type hgb h3 ne2
  refine ⟨os, so, (hg.block ab h1.lt fun e => e1 (by simpa using e.symm)).trans h1, hx, (hg.block sb h3.lt fun e => e2 (by simpa using e.symm)).trans h3, h4, h5.kept hg (fun k hk e => ?_) (fun gj h _ _ e => h (by simpa using e.symm)), h6.kept hg (fun k hk => by simp only [Option.some.injEq] at hk; omega) (fun k hk e => h7 (by rw [hk]; exact e.symm)), h7, fun e => h8 (by simp only [Bool.and_eq_true] at e; exact e.1), by omega, h10⟩
  obtain ⟨vals, ho, _⟩ := h5
  obtain ⟨_, _, cur2, h11⟩ := own_block ho hk
  exact ne_of_type hgb h11 ne3 (by simpa using e)
theorem LoopS.off {os : List Int} {o k : Int} {q so : Bool} {vo' : Value} (h1 : PicAt w ab a b c d (sd a c 4) (.slice (some ⟨g, 0, none⟩) (total a b c d 4) (total a b c d 4))) (h2 : Ix w g (total a b c d 4) f) (h3 : Blk4 w sb 26 v.1 v.2.1 v.2.2.1 v.2.2.2) (h4 : sv = .bool so ∧ (so = false → v = (0, 0, 0, 0))) (h5 : ColsAt W w g vo vc cols) (h6 : OwnI W w vo os) (h7 : vo.ownBlock ≠ some g)
    (h8 : ok = true → os = offs) (h9 : os.length ≤ n) (h10 : ∀ m ∈ os, -9223372036854775808 ≤ m ∧ m ≤ 9223372036854775807) (hO : OwnI W w' vo' (os ++ [o])) (hg : w.grownBy w' vo.ownBlock) (hat : vo'.ownBlock = vo.ownBlock ∨ vo'.ownBlock = some w.heap.size) (hq : q = true → o = k) (ho : I64 o) : LoopS a b c d g ab sb W w' (v, f, cols, offs ++ [k], ok && q) sv vc vo' (n + 1) := by
  have fresh : ∀ gj, gj < w.heap.size → vo.ownBlock ≠ some gj → vo'.ownBlock ≠ some gj := by
    intro gj hl hne e
    rcases hat with h | h
    · rw [h] at e; exact hne e
    · rw [h] at e; simp only [Option.some.injEq] at e; omega
  have vob : ∀ k, vo.ownBlock = some k → ∃ cur, w.heap[k]? = some (.cells cur 3 (0, 0)) := fun k hk => (own_block h6.1 hk).2.2
  refine ⟨os ++ [o], so, (hg.block ab h1.lt fun e => ?_).trans h1, h2.block (hg.block g h2.lt fun e => h7 e.symm), (hg.block sb h3.lt fun e => ?_).trans h3, h4, ?_, hO, fresh g h2.lt h7, fun e => ?_, by simp; omega, ?_⟩
  · obtain ⟨cur, hb⟩ := vob ab e.symm
    exact ne_of_type hb h1 ne1 rfl
  · obtain ⟨cur, hb⟩ := vob sb e.symm
    exact ne_of_type hb h3 ne2 rfl
  · obtain ⟨vals, hov, hrows⟩ := h5
    refine ⟨vals, hov.kept hg ?_, fun j l hj => ?_⟩
    · cases hb : vc.ownBlock with
      | none => exact .inl rfl
      | some k =>
        refine .inr fun e => ?_
        obtain ⟨_, _, cur2, h11⟩ := own_block hov hb
        obtain ⟨cur, hb2⟩ := vob k e.symm
        exact ne_of_type hb2 h11 ne3 rfl
    · obtain ⟨gj, e1, e2, e3, e4⟩ := hrows j l hj
      exact ⟨gj, e1, e2.block (hg.block gj e2.lt fun e => e4 e.symm), e3, fresh gj e2.lt e4⟩
  · simp only [Bool.and_eq_true] at e
    rw [h8 e.1, hq e.2]
  · intro m hm
    simp only [List.mem_append, List.mem_singleton] at hm
    rcases hm with hm | rfl
    · exact h10 m hm
    · exact ho
/-- A color more. -/
theorem LoopS.col {l : List Int} {gn : Nat} {vals : List Value} {q : Bool} {vc' : Value} (h : LoopS a b c d g ab sb W w (v, f, cols, offs, ok) sv vc vo n) (hv : w.ownsRow W.heap.size 24 1 vc cols.length vals) (hrows : ∀ (j : Nat) (l : List Int), cols[j]? = some l → ∃ gj : Nat, vals[j]? = some (Value.slice (some ⟨gj, 0, none⟩) 4 4) ∧ Ix w gj 4 (fun i => l.getD i 0) ∧ gj ≠ g ∧ vo.ownBlock ≠ some gj)
    (hn : Ix w gn 4 (fun i => l.getD i 0)) (hng : gn ≠ g) (hno : vo.ownBlock ≠ some gn) (hC : w'.ownsRow W.heap.size 24 1 vc' (cols.length + 1) (vals ++ [.slice (some ⟨gn, 0, none⟩) 4 4])) (hg : w.grownBy w' vc.ownBlock) : LoopS a b c d g ab sb W w' (v, f, cols ++ [l], offs, ok && q) sv vc' vo (n + 1) := by
  obtain ⟨os, so, h1, h2, h3, h4, h5, h6, h7, h8, h9, h10⟩ := h
  have vcb : ∀ k, vc.ownBlock = some k → ∃ cur, w.heap[k]? = some (.cells cur 24 (0, 0)) := fun k hk => (own_block hv hk).2.2
  have hlv : vals.length = cols.length := by have := hv.1; omega
  have row : ∀ gj, (∃ cur, w.heap[gj]? = some (.cells cur 3 (0, 0))) → vc.ownBlock ≠ some gj := by
    rintro gj ⟨cur, hb⟩ e
    obtain ⟨cur2, hb2⟩ := vcb gj e
    exact ne_of_type hb hb2 ne3 rfl
  refine ⟨os, so, (hg.block ab h1.lt fun e => ?_).trans h1, h2.block (hg.block g h2.lt fun e => row g (ix_block h2) e.symm), (hg.block sb h3.lt fun e => ?_).trans h3, h4, ⟨vals ++ [.slice (some ⟨gn, 0, none⟩) 4 4], by simpa using hC, fun j l' hj => ?_⟩, h6.kept hg (fun k hk => (own_block hv hk).1) (fun k hk e => ?_), h7, fun e => h8 (by simp only [Bool.and_eq_true] at e; exact e.1), by omega, h10⟩
  · obtain ⟨cur, hb⟩ := vcb ab e.symm
    exact ne_of_type hb h1 ne4 rfl
  · obtain ⟨cur, hb⟩ := vcb sb e.symm
    exact ne_of_type hb h3 ne5 rfl
  · by_cases hjl : j < cols.length
    · rw [List.getElem?_append_left hjl] at hj
      obtain ⟨gj, e1, e2, e3, e4⟩ := hrows j l' hj
      exact ⟨gj, by rw [List.getElem?_append_left (by omega)]; exact e1, e2.block (hg.block gj e2.lt fun e => row gj (ix_block e2) e.symm), e3, e4⟩
    · have hj2 : j = cols.length := by have := (List.getElem?_eq_some_iff.1 hj).1; simp at this; omega
      subst hj2
      rw [List.getElem?_append_right (Nat.le_refl _)] at hj
      simp only [Nat.sub_self, List.getElem?_cons_zero, Option.some.injEq] at hj
      subst hj
      exact ⟨gn, by rw [List.getElem?_append_right (by omega)]; simp [hlv], hn.block (hg.block gn hn.lt fun e => row gn (ix_block hn) e.symm), hng, hno⟩
  · obtain ⟨_, _, cur, hb⟩ := own_block h6.1 hk
    exact row k ⟨cur, hb⟩ e
/-- What is visible turns. -/
theorem LoopS.view {u : Bx} {so : Bool} (h : LoopS a b c d g ab sb W w (v, f, cols, offs, ok) sv vc vo n) (hsW : W.heap.size ≤ sb) (hB : Blk4 w' sb 26 u.1 u.2.1 u.2.2.1 u.2.2.2) (hg : w.grownBy w' (some sb)) (hso : so = false → u = (0, 0, 0, 0)) : LoopS a b c d g ab sb W w' (u, f, cols, offs, ok) (.bool so) vc vo (n + 1) := by
  obtain ⟨os, so', h1, h2, h3, h4, h5, h6, h7, h8, h9, h10⟩ := h
  obtain ⟨cur, hgb⟩ := ix_block h2
  have e1 : sb ≠ ab := ne_of_type h3 h1 ne6
  have e2 : g ≠ sb := ne_of_type hgb h3 ne2
  refine ⟨os, so, (hg.block ab h1.lt fun e => e1 (by simpa using e.symm)).trans h1, h2.block (hg.block g h2.lt fun e => e2 (by simpa using e)), hB, ⟨rfl, hso⟩, h5.kept hg (fun k hk e => ?_) (fun gj _ _ hx e => ?_), h6.kept hg (fun k hk => by simp only [Option.some.injEq] at hk; omega) (fun k hk e => ?_), h7, h8, by omega, h10⟩
  · obtain ⟨vals, ho, _⟩ := h5
    obtain ⟨_, _, cur2, h11⟩ := own_block ho hk
    exact ne_of_type h11 h3 ne5 (by simpa using e.symm)
  · obtain ⟨cur3, hb3⟩ := hx
    exact ne_of_type hb3 h3 ne2 (by simpa using e.symm)
  · obtain ⟨_, _, cur4, hb4⟩ := own_block h6.1 hk
    exact ne_of_type hb4 h3 ne2 (by simpa using e.symm)
end

set_option maxHeartbeats 1000000 in
theorem place_some (a b c d st k x y : Int) (w : World) :
    Calls Try.prog 50 #[box4 a b c d, .int .i64 st, .int .i64 k, .int .i64 x, .int .i64 y] w fun e w' => ∃ n, e = .returned (.int .i64 n) ∧ I64 n ∧ Grows w w' := by
  go_enter Try.func50, Try.ntmps50
  go_wp2
  go_ret
  exact ⟨_, rfl, by unfold I64 wrap64; omega, (Grows.rfl' _).alloc' _⟩
theorem place_off (a b c d x y : Int) (v : Bx) (w : World) (hf : Fine a b c d) (hv : Vw a b c d v) :
    Calls Try.prog 50 #[box4 v.1 v.2.1 v.2.2.1 v.2.2.2, .int .i64 (sd a c 4), .int .i64 4, .int .i64 x, .int .i64 y] w fun e w' => ∃ n, e = .returned (.int .i64 n) ∧ I64 n ∧ (InB v x y → n = offV a c 4 v x y) ∧ Grows w w' := by
  have hsd := sd_in (k := 4) (by omega) hf
  by_cases hin : InB v x y
  · have hin' := hin
    obtain ⟨i1, i2, i3, i4⟩ := hin'
    obtain ⟨_, _, ⟨f5, f6⟩, ⟨f7, f8⟩⟩ := hf
    have hb : a ≤ v.1 ∧ v.2.2.1 ≤ c ∧ b ≤ v.2.1 ∧ v.2.2.2 ≤ d := by
      rcases hv with rfl | hv
      · simp at i1 i2; omega
      · omega
    have p1 : 0 ≤ (y - v.2.1) * sd a c 4 := Int.mul_nonneg (by omega) hsd.1
    have p2 : (y - v.2.1) * sd a c 4 ≤ 1000 * 4000 := Int.mul_le_mul (by omega) (by omega) (by omega) (by omega)
    refine (place_any v.1 v.2.1 v.2.2.1 v.2.2.2 (sd a c 4) 4 x y w (by omega) (by omega) (by omega) (by omega) hsd.1 hsd.2 (by omega) (by omega)).mono ?_
    rintro e w' ⟨rfl, hg⟩
    exact ⟨_, rfl, by unfold I64; omega, fun _ => rfl, hg⟩
  · refine (place_some _ _ _ _ _ _ x y w).mono ?_
    rintro e w' ⟨n, rfl, h2, hg⟩
    exact ⟨n, rfl, h2, fun h => absurd h hin, hg⟩

theorem made_lit : madeCells #[Value.int .i64 0] 4 = ([Value.int .i64 0, .int .i64 0, .int .i64 0, .int .i64 0] : List Value).toArray := by
  apply Array.ext_getElem?
  intro i
  simp only [madeCells, Array.getElem?_map]
  rcases Nat.lt_or_ge i 4 with h | h
  · match i, h with
    | 0, _ => rfl
    | 1, _ => rfl
    | 2, _ => rfl
    | 3, _ => rfl
  · have e1 : (Array.range 4)[i]? = none := Array.getElem?_eq_none (by simpa using h)
    have e2 : (([Value.int .i64 0, .int .i64 0, .int .i64 0, .int .i64 0] : List Value).toArray)[i]? = none := Array.getElem?_eq_none (by simpa using h)
    rw [e1, e2]
    rfl

theorem info_row : (Try.prog.info? 24).map (fun i => (i.zero, i.size, i.bytes)) = some (some (.slice none 0 0), 1, 24) := by kernel_rfl
/-- append of one row -/
theorem pushR_wp {ops : Array Oper} {rest : List Oper} {o : Oper} {a : Act} {Q : Exit → Act → World → Prop} {w : World} (hgd : o.guard = none) (s x : Operand)
    (ho : o.op = .call { callee := .builtin .append, args := #[s, x], argTypes := #[83, 83] }) (base : Nat) (v : Value) (m : Nat) (vals : List Value) (u : Value) (hs : a.eval s = v) (hown : w.ownsRow base 24 1 v m vals) (hb : base ≤ w.heap.size)
    (g : Nat) (hx : a.eval x = .slice (some ⟨g, 0, none⟩) 1 1) (hc : w.cell? ⟨g, 0, none⟩ = some u) (hu : u.oneCell' = true) (hl : m < 4000000000000)
    (h : ∀ v' w', w'.ownsRow base 24 1 v' (m + 1) (vals ++ [u]) → w.grownBy w' v.ownBlock → wpList Try.prog ops Q rest (a.put o.dst v') w') : wpList Try.prog ops Q (o :: rest) a w := by
  obtain ⟨i0, hi, hz0, hz1, hz2⟩ := info_parts info_row
  refine wpList_append_own w hgd s x 83 ho base 24 i0 (.slice none 0 0) 1 24 Try.underlying83 hi hz0 hz1 hz2 rfl (by decide) v m vals hs hown ⟨g, 0, none⟩ 1 1 [u] hx rfl ?_ ?_ ?_ ?_ hb ?_
  · intro j u' hj
    match j, hj with
    | 0, hj => simp at hj; subst hj; simpa [Addr.add] using hc
  · intro u' hu'; simp at hu'; subst hu'; exact hu
  · unfold maxLen; omega
  · omega
  · intro v' w' ho' hg _
    exact h v' w' ho' hg

/-- The result of the reference's script. -/
def SpecOut (a b c d : Int) (S : St) (W : World) (e : Ending) (w' : World) : Prop :=
  ∃ vc vo g offs, e = .returned (.tuple #[vc, vo, .agg #[.int .i64 a, .int .i64 b, .int .i64 c, .int .i64 d, .int .i64 (sd a c 4), .slice (some ⟨g, 0, none⟩) (total a b c d 4) (total a b c d 4)]]) ∧ Ix w' g (total a b c d 4) S.2.1 ∧ W.heap.size ≤ g ∧ ColsAt W w' g vo vc S.2.2.1 ∧ OwnI W w' vo offs ∧
    (S.2.2.2.2 = true → offs = S.2.2.2.1) ∧ (offs.length ≤ 1600000000000 ∧ ∀ n ∈ offs, -9223372036854775808 ≤ n ∧ n ≤ 9223372036854775807)

set_option maxRecDepth 20000 in
set_option maxHeartbeats 8000000 in
theorem specRun (a b c d : Int) (v : Value) (zs : List Int) (vs : Value) (ss : List Stp) (w : World) (hf : Fine a b c d) (h : RdI w v zs) (hs : RdS w vs ss) :
    Calls Try.prog 38 #[box4 a b c d, .int .i64 4, v, vs] w (SpecOut a b c d (runF a b c d 4 (byteAt zs) ss) w) := by
  have HR := Lib.hid h
  have HF := Lib.hid hf
  have htl := total_le (k := 4) (by omega) hf
  obtain ⟨A, cc, rfl, _⟩ := h
  obtain ⟨A1, c1, rfl, hs1, hs2, hs3, hs4, hs5⟩ := hs
  have HS5 := Lib.hid hs5
  clear hf hs4 hs5
  go_enter Try.func38, Try.ntmps38
  go_upto_region 1 with fail
  have HGW : Hid (Grows w ((w.alloc (.cells #[.int .i64 a, .int .i64 b, .int .i64 c, .int .i64 d] 26)).alloc (.cells #[.int .i64 0, .int .i64 0, .int .i64 0, .int .i64 0, .int .i64 0, .slice none 0 0] 34))) := ((Grows.rfl' w).alloc' _).alloc' _
  have HRB : Hid (BoxAt ((w.alloc (.cells #[.int .i64 a, .int .i64 b, .int .i64 c, .int .i64 d] 26)).alloc (.cells #[.int .i64 0, .int .i64 0, .int .i64 0, .int .i64 0, .int .i64 0, .slice none 0 0] 34)) w.heap.size a b c d) := BoxAt.grows ⟨cell_top rfl rfl, cell_top rfl rfl, cell_top rfl rfl, cell_top rfl rfl⟩ ((Grows.rfl' _).alloc' _)
  have hszW : ((w.alloc (.cells #[.int .i64 a, .int .i64 b, .int .i64 c, .int .i64 d] 26)).alloc (.cells #[.int .i64 0, .int .i64 0, .int .i64 0, .int .i64 0, .int .i64 0, .slice none 0 0] 34)).heap.size = w.heap.size + 2 := by simp
  have hb0 : ((w.alloc (.cells #[.int .i64 a, .int .i64 b, .int .i64 c, .int .i64 d] 26)).alloc (.cells #[.int .i64 0, .int .i64 0, .int .i64 0, .int .i64 0, .int .i64 0, .slice none 0 0] 34)).heap[w.heap.size + 1]? = some (.cells #[.int .i64 0, .int .i64 0, .int .i64 0, .int .i64 0, .int .i64 0, .slice none 0 0] 34 (0, 0)) := heap_top (by simp)
  have HBX := Lib.hid hb0
  clear hb0
  generalize ((w.alloc (.cells #[.int .i64 a, .int .i64 b, .int .i64 c, .int .i64 d] 26)).alloc (.cells #[.int .i64 0, .int .i64 0, .int .i64 0, .int .i64 0, .int .i64 0, .slice none 0 0] 34)) = W at *
  obtain ⟨q0, q1, q2, q3⟩ := HRB.out
  go_wp2_with fail
  refine (made_any _ _ _ _ 4 (by omega) HF.out _ zs _ (HR.out.grows HGW.out)).mono ?_
  rintro e w1 ⟨g, rfl, hgW, hix, hg1⟩
  have HIX := Lib.hid hix
  have HG1 := Lib.hid hg1
  clear q0 q1 q2 q3 hix hg1
  obtain ⟨q0, q1, q2, q3⟩ := HRB.out.grows HG1.out
  have hlt0 : w.heap.size < w1.heap.size := cell_lt q0
  go_upto_region 3 with fail
  have HL0 : Hid (LoopS a b c d g w1.heap.size (w1.heap.size + 1) W ((w1.alloc (.cells #[.int .i64 a, .int .i64 b, .int .i64 c, .int .i64 d, .int .i64 (sd a c 4), .slice (some ⟨g, 0, none⟩) (total a b c d 4) (total a b c d 4)] 34)).alloc (.cells #[.int .i64 a, .int .i64 b, .int .i64 c, .int .i64 d] 26)) (runF a b c d 4 (byteAt zs) (ss.take 0)) (.bool true) (.slice none 0 0) (.slice none 0 0) 0) := by
    have hgr : Grows w1 ((w1.alloc (.cells #[.int .i64 a, .int .i64 b, .int .i64 c, .int .i64 d, .int .i64 (sd a c 4), .slice (some ⟨g, 0, none⟩) (total a b c d 4) (total a b c d 4)] 34)).alloc (.cells #[.int .i64 a, .int .i64 b, .int .i64 c, .int .i64 d] 26)) := ((Grows.rfl' _).alloc' _).alloc' _
    exact ⟨[], true, PicAt.grows (heap_alloc_new _ _) ((Grows.rfl' _).alloc' _), HIX.out.grows hgr, heap_top (by simp), ⟨rfl, by simp⟩, ⟨[], World.ownsRow_nil _ _ _ _, fun j l hj => absurd (show ([] : List (List Int))[j]? = some l from hj) (by simp)⟩, OwnI.nil (HG1.out.step hgr), by simp [Value.ownBlock], fun _ => rfl, by simp, by simp⟩
  have hab : W.heap.size ≤ w1.heap.size := HG1.out.size
  have hsbW : W.heap.size ≤ w1.heap.size + 1 := by omega
  have HRB2 : Hid (BoxAt ((w1.alloc (.cells #[.int .i64 a, .int .i64 b, .int .i64 c, .int .i64 d, .int .i64 (sd a c 4), .slice (some ⟨g, 0, none⟩) (total a b c d 4) (total a b c d 4)] 34)).alloc (.cells #[.int .i64 a, .int .i64 b, .int .i64 c, .int .i64 d] 26)) w.heap.size a b c d) := HRB.out.grows ((HG1.out.alloc' _).alloc' _)
  clear q0 q1 q2 q3 HIX HG1 hlt0
  generalize (w1.alloc (.cells #[.int .i64 a, .int .i64 b, .int .i64 c, .int .i64 d, .int .i64 (sd a c 4), .slice (some ⟨g, 0, none⟩) (total a b c d 4) (total a b c d 4)] 34)).alloc (.cells #[.int .i64 a, .int .i64 b, .int .i64 c, .int .i64 d] 26) = w2 at *
  generalize hsbe : w1.heap.size + 1 = sb at *
  generalize w1.heap.size = ab at *
  clear hsbe
  go_wp2_with fail
  go_loopw [13, 14, 15, 17, 18, 19, 20, 21, 29] (fun sv vc vo _ _ _ _ _ iv wr => ∃ j : Nat, j ≤ ss.length ∧ iv = .int .i64 j ∧ LoopS a b c d g ab sb W wr (runF a b c d 4 (byteAt zs) (ss.take j)) sv vc vo j) (fun _ _ _ _ _ _ _ _ iv _ => ss.length - (intOf iv).toNat)
  case atStart => exact ⟨0, Nat.zero_le _, rfl, HL0.out⟩
  case round =>
    obtain ⟨j, hj, rfl, hlv⟩ := hrel
    clear HL0
    by_cases hlt : j < ss.length
    · have he : ss[j]? = some ss[j] := List.getElem?_eq_getElem hlt
      have HN := Lib.hid (runF_snoc a b c d 4 (byteAt zs) he)
      have HOK := Lib.hid (runF_okay (k := 4) (f := byteAt zs) ⟨HF.out.2.2.1.1, HF.out.2.2.1.2⟩ (byteAt_in zs) ss j hj)
      obtain ⟨bb, oo, rfl, hcell⟩ := HS5.out j _ he
      have hb3 : decide ((j : Int) < ss.length) = true := decide_eq_true (by omega)
      generalize runF a b c d 4 (byteAt zs) (ss.take j) = S at *
      generalize ss[j] = s at *
      obtain ⟨t, x, y, ⟨r, g', bl, al⟩, ⟨x0, y0, x1, y1⟩⟩ := s
      obtain ⟨v, f, cols, offs', ok⟩ := S
      obtain ⟨A', B', C', D'⟩ := v
      have hgr := HGW.out.step hlv.own
      have cc0 := hgr.cell_some (hcell 0 _ rfl)
      have cc1 := hgr.cell_some (hcell 1 _ rfl)
      have cc2 := hgr.cell_some (hcell 2 _ rfl)
      have cc3 := hgr.cell_some (hcell 3 _ rfl)
      have cc4 := hgr.cell_some (hcell 4 _ rfl)
      have cc5 := hgr.cell_some (hcell 5 _ rfl)
      have cc6 := hgr.cell_some (hcell 6 _ rfl)
      have cc7 := hgr.cell_some (hcell 7 _ rfl)
      have cc8 := hgr.cell_some (hcell 8 _ rfl)
      have cc9 := hgr.cell_some (hcell 9 _ rfl)
      have cc10 := hgr.cell_some (hcell 10 _ rfl)
      simp only [Nat.add_zero] at cc0
      have hso : ∃ so, u13 = .bool so ∧ (so = false → ((A', B', C', D') : Bx) = (0, 0, 0, 0)) := by
        obtain ⟨os, so, _, _, _, h4, _⟩ := hlv
        exact ⟨so, h4⟩
      obtain ⟨so, rfl, hso0⟩ := hso
      have HSO := Lib.hid hso0
      have HLV := Lib.hid hlv
      clear hlv hcell he hgr hso0
      go_upto_region 8 with fail
      clear cc0 cc1 cc2 cc3 cc4 cc5 cc6 cc7 cc8 cc9 cc10
      have hga : Grows wr (wr.alloc (.cells #[.int .i64 t, .int .i64 x, .int .i64 y, .int .i64 r, .int .i64 g', .int .i64 bl, .int .i64 al, .int .i64 x0, .int .i64 y0, .int .i64 x1, .int .i64 y1] 48)) := (Grows.rfl' _).alloc' _
      have HSB : Hid (StpAt (wr.alloc (.cells #[.int .i64 t, .int .i64 x, .int .i64 y, .int .i64 r, .int .i64 g', .int .i64 bl, .int .i64 al, .int .i64 x0, .int .i64 y0, .int .i64 x1, .int .i64 y1] 48)) wr.heap.size (t, x, y, (r, g', bl, al), (x0, y0, x1, y1))) := StpAt.top (t, x, y, (r, g', bl, al), (x0, y0, x1, y1)) rfl
      replace HLV := Lib.hid (HLV.out.grows hga)
      clear hga
      generalize wr.alloc (.cells #[.int .i64 t, .int .i64 x, .int .i64 y, .int .i64 r, .int .i64 g', .int .i64 bl, .int .i64 al, .int .i64 x0, .int .i64 y0, .int .i64 x1, .int .i64 y1] 48) = w3 at *
      generalize wr.heap.size = stb at *
      have hseen : Blk4 w3 sb 26 A' B' C' D' := by
        obtain ⟨os, so', _, _, h3, _⟩ := HLV.out
        exact h3
      obtain ⟨k0, k1, k2, k3⟩ := hseen.cells
      obtain ⟨s0, s1, s2, s3, s4, s5, s6, s7, s8, s9, s10⟩ := HSB.out.cells
      go_cut [18] from 33 to 41 (fun v18 wx => v18 = .bool (decide (InB (A', B', C', D') x y)) ∧ Grows w3 wx)
      case first =>
        by_cases hin : Inn A' B' C' D' x y
        · have hso1 : so = true := by
            cases so with
            | true => rfl
            | false =>
              have := HSO.out rfl
              simp only [Prod.mk.injEq] at this
              unfold Inn at hin
              omega
          have HIN := Lib.hid hin
          subst hso1
          clear hin
          go_wp2_with fail
          refine (specHas_yes _ _ _ _ _ _ _ HIN.out).mono ?_
          rintro e w4 ⟨rfl, hg4⟩
          go_wp2_with fail
          go_meet
          case rel => exact ⟨by rw [decide_eq_true (show InB (A', B', C', D') x y from HIN.out)], hg4⟩
        · have HIN := Lib.hid hin
          clear hin
          cases so with
          | true =>
            go_wp2_with fail
            refine (specHas_no _ _ _ _ _ _ _ HIN.out).mono ?_
            rintro e w4 ⟨rfl, hg4⟩
            go_wp2_with fail
            go_meet
            case rel => exact ⟨by rw [decide_eq_false (show ¬ InB (A', B', C', D') x y from HIN.out)], hg4⟩
          | false =>
            go_wp2_with fail
            go_meet
            case rel => exact ⟨by rw [decide_eq_false (show ¬ InB (A', B', C', D') x y from HIN.out)], Grows.rfl' _⟩
      case rest =>
        obtain ⟨rfl, hgc⟩ := hcut
        replace HLV := Lib.hid (HLV.out.grows hgc)
        replace HSB := Lib.hid (HSB.out.grows hgc)
        clear hgc k0 k1 k2 k3 s0 s1 s2 s3 s4 s5 s6 s7 s8 s9 s10 hseen HSO
        generalize wc = w4 at *
        obtain ⟨os, so', hpic, hix, hseen, hsv, hcols, hoffs, hvog, hok, hol, hoi⟩ := HLV.out
        have HPIC := Lib.hid hpic
        have HIX := Lib.hid hix
        have HSEEN := Lib.hid hseen
        have HALL : Hid ((Value.bool so = .bool so' ∧ (so' = false → ((A', B', C', D') : Bx) = (0, 0, 0, 0))) ∧ ColsAt W w4 g u15 u14 cols ∧ OwnI W w4 u15 os ∧ u15.ownBlock ≠ some g ∧ (ok = true → os = offs') ∧ os.length ≤ j ∧ ∀ m ∈ os, -9223372036854775808 ≤ m ∧ m ≤ 9223372036854775807) := ⟨hsv, hcols, hoffs, hvog, hok, hol, hoi⟩
        have hgw4 := HGW.out.step HLV.out.own
        have HRB4 : Hid (BoxAt w4 w.heap.size a b c d) := HRB.out.grows HLV.out.own
        clear hpic hix hseen hsv hcols hoffs hvog hok hoi hgw4
        have hsd := sd_in (k := 4) (by omega) HF.out
        have hstb : stb < w4.heap.size := cell_lt (HSB.out 0 _ rfl)
        have habl : ab < w4.heap.size := HPIC.out.lt
        have hsbl : sb < w4.heap.size := HSEEN.out.lt
        obtain ⟨s0, s1, s2, s3, s4, s5, s6, s7, s8, s9, s10⟩ := HSB.out.cells
        obtain ⟨t0, t1', t2', t3', t4', t5'⟩ := HPIC.out.cells
        obtain ⟨k0, k1, k2, k3⟩ := HSEEN.out.cells
        obtain ⟨q0, q1, q2, q3⟩ := HRB4.out
        have hrl : w.heap.size < w4.heap.size := cell_lt q0
        by_cases t1 : t = 1
        · subst t1
          by_cases hin : InB (A', B', C', D') x y
          · rw [decide_eq_true hin]
            have HIN := Lib.hid hin
            have hxy : Inn a b c d x y := HOK.out.1.inn hin
            obtain ⟨i, hi, hil⟩ := inside_at (k := 4) HF.out (by omega) hxy
            obtain ⟨i1, i2, i3, i4⟩ := hxy
            obtain ⟨_, _, ⟨f5, f6⟩, ⟨f7, f8⟩⟩ := HF.out
            have HEI := Lib.hid hi
            have HPO : Hid (pos a b c 4 x y = i) := by unfold Hid pos; rw [hi]; simp
            have hgl : g < w4.heap.size := HIX.out.lt
            clear hin hi
            go_upto_region 13 with fail
            clear s0 s1 s2 s3 s4 s5 s6 s7 s8 s9 s10 t0 t1' t2' t3' t4' t5' k0 k1 k2 k3 q0 q1 q2 q3
            have hga : Grows w4 (w4.alloc (.cells #[.int .i64 r, .int .i64 g', .int .i64 bl, .int .i64 al] 3)) := (Grows.rfl' _).alloc' _
            apply wp_region_lex_lit 9 (by kernel_rfl) (by kernel_rfl)
            iterate 9
              apply lex_pin
              · intro wq hgq hdq Kq hKq
                obtain ⟨s0, s1, s2, s3, s4, s5, s6, s7, s8, s9, s10⟩ := (HSB.out.grows (hga.drew'.step hgq)).cells
                obtain ⟨t0, t1', t2', t3', t4', t5'⟩ := (HPIC.out.grows (hga.drew'.step hgq)).cells
                obtain ⟨k0, k1, k2, k3⟩ := (HSEEN.out.grows (hga.drew'.step hgq)).cells
                go_wp2
                exact hKq _ (Grows.rfl' _)
              · kernel_rfl
            refine lex_end ?_
            intro w6 hg6 _
            have hg46 : Grows w4 w6 := hga.drew'.step hg6
            have hcl : ∀ (j : Nat) (m : Int), [r, g', bl, al][j]? = some m → w6.cell? ⟨w4.heap.size, j, none⟩ = some (.int .i64 m) := by
              intro j m hj
              refine hg6.cell_some (cell_top rfl ?_)
              match j, hj with
              | 0, hj => simp at hj; subst hj; rfl
              | 1, hj => simp at hj; subst hj; rfl
              | 2, hj => simp at hj; subst hj; rfl
              | 3, hj => simp at hj; subst hj; rfl
              | j + 4, hj => simp at hj
            have HPT := Lib.hid (paint_in g (total a b c d 4) i 4 w4.heap.size f a b c d (sd a c 4) A' B' C' D' x y [r, g', bl, al] w6 (HIX.out.grows hg46) HIN.out hcl (by omega) (by omega) (by omega) (by omega) (by omega) hsd.1 hsd.2 (by simp) (by simpa using HEI.out) (by simpa using hil) (by omega))
            replace HLV := Lib.hid (HLV.out.grows hg46)
            clear hg6 hg46 hcl hga
            go_wp2_with fail
            refine HPT.out.mono ?_
            rintro e w7 ⟨rfl, hix7, hgr7⟩
            have HL5 := Lib.hid (HLV.out.set (q := decide (InB (A', B', C', D') x y)) hgW hix7 hgr7)
            clear hix7 hgr7
            go_wp2_with fail
            go_roundw
            case rel =>
              refine ⟨j + 1, by omega, by go_num, ?_⟩
              rw [HN.out]
              have e1 : putV a b c 4 (A', B', C', D') f x y (lows 4 (r, g', bl, al)) = putF f i ([r, g', bl, al].map (· % 256)) := by
                unfold putV
                rw [if_pos HIN.out, HPO.out]
                rfl
              show LoopS a b c d g ab sb W w7 ((A', B', C', D'), putV a b c 4 (A', B', C', D') f x y (lows 4 (r, g', bl, al)), cols, offs', ok && decide (InB (A', B', C', D') x y)) _ _ _ _
              rw [e1]
              exact HL5.out
            case measure => simp [intOf]; omega
          · rw [decide_eq_false hin]
            have HIN := Lib.hid hin
            have HL5 := Lib.hid (HLV.out.lag (q := decide (InB (A', B', C', D') x y)))
            clear hin
            go_wp2_with fail
            go_roundw
            case rel =>
              refine ⟨j + 1, by omega, by go_num, ?_⟩
              rw [HN.out]
              have e1 : putV a b c 4 (A', B', C', D') f x y (lows 4 (r, g', bl, al)) = f := by
                unfold putV
                rw [if_neg HIN.out]
              show LoopS a b c d g ab sb W w4 ((A', B', C', D'), putV a b c 4 (A', B', C', D') f x y (lows 4 (r, g', bl, al)), cols, offs', ok && decide (InB (A', B', C', D') x y)) _ _ _ _
              rw [e1]
              exact HL5.out
            case measure => simp [intOf]; omega
        by_cases t2 : t = 2
        · subst t2
          have hmk : ∀ W : World, (Instr.makeSlice 24 (.int .i64 4) (.int .i64 4)).run Try.prog W = .ok (.slice (some ⟨W.heap.size, 0, none⟩) 4 4) (W.alloc (.cells (madeCells #[.int .i64 0] 4) 3)) :=
            fun W => run_make_row' 24 3 (.int .i64 0) 8 Try.underlying24 info_int rfl .i64 .i64 4 (by omega) (by omega) W
          obtain ⟨vals, hov, hrows⟩ := HALL.out.2.1
          have HVR := Lib.hid (And.intro hov hrows)
          have hcl : cols.length ≤ j := HOK.out.2.2.1
          have hgl : g < w4.heap.size := HIX.out.lt
          have hob : ∀ k, u15.ownBlock = some k → k < w4.heap.size := fun k hk => (own_block HALL.out.2.2.1.1 hk).2.1
          have HOB := Lib.hid hob
          clear hov hrows hob
          by_cases hin : InB (A', B', C', D') x y
          · rw [decide_eq_true hin]
            have HIN := Lib.hid hin
            have hxy : Inn a b c d x y := HOK.out.1.inn hin
            obtain ⟨i, hi, hil⟩ := inside_at (k := 4) HF.out (by omega) hxy
            obtain ⟨i1, i2, i3, i4⟩ := hxy
            obtain ⟨_, _, ⟨f5, f6⟩, ⟨f7, f8⟩⟩ := HF.out
            have HPO : Hid (pos a b c 4 x y = i) := by unfold Hid pos; rw [hi]; simp
            have hei : (y - b) * sd a c 4 + (x - a) * 4 = (i : Int) := hi
            have HEI := Lib.hid hei
            clear hei
            clear hin hi
            go_wp2_with fail
            refine (place_any a b c d (sd a c 4) 4 x y _ (by omega) (by omega) (by omega) (by omega) hsd.1 hsd.2 (by omega) (by omega)).mono ?_
            rintro e w6 ⟨he, hg6⟩
            rw [HEI.out] at he
            subst he
            have hil2 : (i : Int) + 4 ≤ (total a b c d 4 : Int) := by omega
            have hil3 : i ≤ total a b c d 4 := by omega
            have HG46 : Hid (Grows w4 w6) := ((Grows.rfl' _).alloc' _).step hg6
            have hblk : w6.heap[w4.heap.size]? = some (.cells (madeCells #[Value.int .i64 0] 4) 3 (0, 0)) := (hg6.block _ (by simp)).trans (heap_alloc_new _ _)
            rw [made_lit] at hblk
            have HBLK := Lib.hid hblk
            clear hblk hg6 s0 s1 s2 s3 s4 s5 s6 s7 s8 s9 s10 t0 t1' t2' t3' t4' t5' k0 k1 k2 k3 q0 q1 q2 q3
            obtain ⟨t0, t1', t2', t3', t4', t5'⟩ := (HPIC.out.grows HG46.out).cells
            have hcopy : (Builtin.copy_ #[24, 24] 3 #[.slice (some ⟨w4.heap.size, 0, none⟩) 4 4, .slice (some ⟨g, i, none⟩) 4 (total a b c d 4 - i)]).run Try.prog w6 = .ok (.int .i64 4) (w6.setRow w4.heap.size ([Value.int .i64 (f i), .int .i64 (f (i + 1)), .int .i64 (f (i + 2)), .int .i64 (f (i + 3))] : List Value).toArray) := run_copy_row (P := Try.prog) w6 24 24 3 3 w4.heap.size 0 4 4 ⟨g, i, none⟩ 4 (total a b c d 4 - i) _ _ [Value.int .i64 (f i), .int .i64 (f (i + 1)), .int .i64 (f (i + 2)), .int .i64 (f (i + 3))] Try.underlying24 (by kernel_rfl) HBLK.out rfl (by
              intro j v hj
              have hx := HIX.out.grows HG46.out
              have e : ∀ j, (⟨g, i, none⟩ : Addr).add j = ⟨g, i + j, none⟩ := fun j => by unfold Addr.add; split <;> simp_all
              rw [e]
              match j, hj with
              | 0, hj => simp at hj; subst hj; exact hx.cell (by omega)
              | 1, hj => simp at hj; subst hj; exact hx.cell (by omega)
              | 2, hj => simp at hj; subst hj; exact hx.cell (by omega)
              | 3, hj => simp at hj; subst hj; exact hx.cell (by omega)
              | j + 4, hj => simp at hj) (by simp) (by intro v hv; simp at hv; rcases hv with rfl | rfl | rfl | rfl <;> rfl)
            obtain ⟨w7, hw7⟩ : ∃ w7, w7 = w6.setRow w4.heap.size ([Value.int .i64 (f i), .int .i64 (f (i + 1)), .int .i64 (f (i + 2)), .int .i64 (f (i + 3))] : List Value).toArray := ⟨_, rfl⟩
            rw [← hw7] at hcopy
            have h7b : w7.heap[w4.heap.size]? = some (.cells ([Value.int .i64 (f i), .int .i64 (f (i + 1)), .int .i64 (f (i + 2)), .int .i64 (f (i + 3))] : List Value).toArray 3 (0, 0)) := by rw [hw7]; exact setRow_heap w6 _ _ _ _ _ HBLK.out
            have HGA : Hid (Grows w4 w7) := by rw [hw7]; exact below_setRow HG46.out (Nat.le_refl _) _
            obtain ⟨gn, hgn⟩ : ∃ gn, gn = w4.heap.size := ⟨_, rfl⟩
            have HNW : Hid (Ix w7 gn 4 (fun i => (bytesOf 4 (getV a b c 4 (A', B', C', D') f x y)).getD i 0)) := by
              rw [hgn]
              refine ⟨_, h7b, rfl, fun m hm => ?_⟩
              have e1 : (bytesOf 4 (getV a b c 4 (A', B', C', D') f x y)).getD m 0 = f (i + m) := by
                rw [List.getD_eq_getElem?_getD, bytesOf_at hm]
                unfold getV
                rw [if_pos HIN.out, HPO.out]
                rfl
              show _ = some (Value.int .i64 ((bytesOf 4 (getV a b c 4 (A', B', C', D') f x y)).getD m 0))
              rw [e1]
              match m, hm with
              | 0, _ => rfl
              | 1, _ => rfl
              | 2, _ => rfl
              | 3, _ => rfl
            have HGN : Hid (gn ≠ g ∧ u15.ownBlock ≠ some gn) := ⟨by omega, fun e => by have := HOB.out gn e; omega⟩
            clear hw7 h7b HBLK HG46
            rw [← hgn] at hcopy
            rw [← hgn]
            clear hgn
            go_upto_region 19 with fail
            have HGP : Hid (Grows w4 (w7.alloc (.cells #[.slice (some ⟨gn, 0, none⟩) 4 4] 24))) := HGA.out.alloc' _
            have HLP := Lib.hid (HLV.out.grows HGP.out)
            have HVP : Hid ((w7.alloc (.cells #[.slice (some ⟨gn, 0, none⟩) 4 4] 24)).ownsRow W.heap.size 24 1 u14 cols.length vals ∧ ∀ (j : Nat) (l : List Int), cols[j]? = some l → ∃ gj : Nat, vals[j]? = some (Value.slice (some ⟨gj, 0, none⟩) 4 4) ∧ Ix (w7.alloc (.cells #[.slice (some ⟨gn, 0, none⟩) 4 4] 24)) gj 4 (fun i => l.getD i 0) ∧ gj ≠ g ∧ u15.ownBlock ≠ some gj) := by
              refine ⟨HVR.out.1.kept (grown_of (row := none) HGP.out) ?_, fun j l hj => ?_⟩
              · cases u14.ownBlock with
                | none => exact .inl rfl
                | some k => exact .inr (by simp)
              · obtain ⟨gj, e1, e2, e3, e4⟩ := HVR.out.2 j l hj
                exact ⟨gj, e1, e2.grows HGP.out, e3, e4⟩
            have HNP := Lib.hid (HNW.out.grows ((Grows.rfl' w7).alloc' (.cells #[.slice (some ⟨gn, 0, none⟩) 4 4] 24)))
            have hWs : W.heap.size ≤ (w7.alloc (.cells #[.slice (some ⟨gn, 0, none⟩) 4 4] 24)).heap.size := HLP.out.own.size
            go_wp2_with (at_builtin; refine pushR_wp rfl _ _ rfl W.heap.size _ cols.length vals (.slice (some ⟨gn, 0, none⟩) 4 4) rfl HVP.out.1 hWs w7.heap.size rfl (by simp) rfl (by omega) ?_; intro vc' w8 hC8 hg8)
            have HL5 := Lib.hid (HLP.out.col (q := decide (InB (A', B', C', D') x y)) HVP.out.1 HVP.out.2 HNP.out HGN.out.1 HGN.out.2 hC8 hg8)
            go_roundw
            case rel => exact ⟨j + 1, by omega, by go_num, by rw [HN.out]; exact HL5.out⟩
            case measure => simp [intOf]; omega
          · rw [decide_eq_false hin]
            have HIN := Lib.hid hin
            clear hin
            obtain ⟨gn, hgn⟩ : ∃ gn, gn = w4.heap.size := ⟨_, rfl⟩
            have HNW : Hid (Ix (w4.alloc (.cells (madeCells #[.int .i64 0] 4) 3)) gn 4 (fun i => (bytesOf 4 (getV a b c 4 (A', B', C', D') f x y)).getD i 0)) := by
              rw [hgn]
              refine World.rowIs.congr (World.rowIs_made w4 (.int .i64 0) 4 3) fun i hi => ?_
              have : (bytesOf 4 (getV a b c 4 (A', B', C', D') f x y)).getD i 0 = 0 := by
                rw [List.getD_eq_getElem?_getD, bytesOf_at hi]
                unfold getV
                rw [if_neg HIN.out]
                rfl
              show Value.int .i64 0 = .int .i64 ((bytesOf 4 (getV a b c 4 (A', B', C', D') f x y)).getD i 0)
              rw [this]
            have HGN : Hid (gn ≠ g ∧ u15.ownBlock ≠ some gn) := ⟨by omega, fun e => by have := HOB.out gn e; omega⟩
            have HGA : Hid (Grows w4 (w4.alloc (.cells (madeCells #[.int .i64 0] 4) 3))) := (Grows.rfl' _).alloc' _
            go_upto_region 19 with fail
            rw [← hgn]
            clear hgn
            generalize w4.alloc (.cells (madeCells #[.int .i64 0] 4) 3) = w7 at *
            have HGP : Hid (Grows w4 (w7.alloc (.cells #[.slice (some ⟨gn, 0, none⟩) 4 4] 24))) := HGA.out.alloc' _
            have HLP := Lib.hid (HLV.out.grows HGP.out)
            have HVP : Hid ((w7.alloc (.cells #[.slice (some ⟨gn, 0, none⟩) 4 4] 24)).ownsRow W.heap.size 24 1 u14 cols.length vals ∧ ∀ (j : Nat) (l : List Int), cols[j]? = some l → ∃ gj : Nat, vals[j]? = some (Value.slice (some ⟨gj, 0, none⟩) 4 4) ∧ Ix (w7.alloc (.cells #[.slice (some ⟨gn, 0, none⟩) 4 4] 24)) gj 4 (fun i => l.getD i 0) ∧ gj ≠ g ∧ u15.ownBlock ≠ some gj) := by
              refine ⟨HVR.out.1.kept (grown_of (row := none) HGP.out) ?_, fun j l hj => ?_⟩
              · cases u14.ownBlock with
                | none => exact .inl rfl
                | some k => exact .inr (by simp)
              · obtain ⟨gj, e1, e2, e3, e4⟩ := HVR.out.2 j l hj
                exact ⟨gj, e1, e2.grows HGP.out, e3, e4⟩
            have HNP := Lib.hid (HNW.out.grows ((Grows.rfl' w7).alloc' (.cells #[.slice (some ⟨gn, 0, none⟩) 4 4] 24)))
            have hWs : W.heap.size ≤ (w7.alloc (.cells #[.slice (some ⟨gn, 0, none⟩) 4 4] 24)).heap.size := HLP.out.own.size
            go_wp2_with (at_builtin; refine pushR_wp rfl _ _ rfl W.heap.size _ cols.length vals (.slice (some ⟨gn, 0, none⟩) 4 4) rfl HVP.out.1 hWs w7.heap.size rfl (by simp) rfl (by omega) ?_; intro vc' w8 hC8 hg8)
            have HL5 := Lib.hid (HLP.out.col (q := decide (InB (A', B', C', D') x y)) HVP.out.1 HVP.out.2 HNP.out HGN.out.1 HGN.out.2 hC8 hg8)
            go_roundw
            case rel => exact ⟨j + 1, by omega, by go_num, by rw [HN.out]; exact HL5.out⟩
            case measure => simp [intOf]; omega
        by_cases t3 : t = 3
        · subst t3
          have HOF := Lib.hid (place_off a b c d x y (A', B', C', D') w4 HF.out HOK.out.1)
          have hol' := hol
          generalize hdd : decide (InB (A', B', C', D') x y) = dd at *
          have HDD := Lib.hid hdd
          clear hdd
          go_wp2_with fail
          refine HOF.out.mono ?_
          rintro e w5 ⟨n, rfl, hn, hno, hg5⟩
          have HNO := Lib.hid (And.intro hn hno)
          have HGA := Lib.hid (hg5.alloc' (.cells #[.int .i64 n] 3))
          have HOO := Lib.hid (HALL.out.2.2.1.later HGA.out)
          clear hg5 hn hno s0 s1 s2 s3 s4 s5 s6 s7 s8 s9 s10 t0 t1' t2' t3' t4' t5' k0 k1 k2 k3 q0 q1 q2 q3
          go_wp2_with (at_builtin; refine pushI_at rfl _ _ rfl W _ os n rfl HOO.out w5.heap.size rfl (by simp) (by omega) ?_; intro vo' w6 hO6 hg6 hat6)
          have HL5 : Hid (LoopS a b c d g ab sb W w6 ((A', B', C', D'), f, cols, offs' ++ [offV a c 4 (A', B', C', D') x y], ok && dd) (.bool so) u14 vo' (j + 1)) := by
            obtain ⟨⟨e0, hsv⟩, hcols, hoffs, hvog, hok, _, hoi⟩ := HALL.out
            have e0' : so = so' := by simpa using e0
            subst e0'
            have hc' : ColsAt W (w5.alloc (.cells #[.int .i64 n] 3)) g u15 u14 cols := hcols.kept (grown_of (row := none) HGA.out) (fun k hk => by simp) (fun gj _ _ _ => by simp)
            exact LoopS.off (HPIC.out.grows HGA.out) (HIX.out.grows HGA.out) (HSEEN.out.grows HGA.out) ⟨rfl, hsv⟩ hc' HOO.out hvog hok hol' hoi hO6 hg6 hat6 (fun e => HNO.out.2 (by have := HDD.out; rw [e] at this; exact of_decide_eq_true this)) HNO.out.1
          go_roundw
          case rel => exact ⟨j + 1, by omega, by go_num, by rw [HN.out]; show LoopS a b c d g ab sb W w6 ((A', B', C', D'), f, cols, offs' ++ [offV a c 4 (A', B', C', D') x y], ok && decide (InB (A', B', C', D') x y)) _ _ _ _; rw [HDD.out]; exact HL5.out⟩
          case measure => simp [intOf]; omega
        by_cases t4 : t = 4
        · subst t4
          generalize decide (InB (A', B', C', D') x y) = dd at *
          cases so with
          | false =>
            have hv0 : ((A', B', C', D') : Bx) = (0, 0, 0, 0) := by
              obtain ⟨⟨e0, hsv⟩, _⟩ := HALL.out
              exact hsv (by simpa using e0.symm)
            have hI0 : interB (A', B', C', D') (x0, y0, x1, y1) = (A', B', C', D') := by
              rw [hv0]
              refine interB_no fun h => ?_
              unfold Meet at h
              omega
            have HI0 := Lib.hid hI0
            have HL5 := Lib.hid HLV.out.more
            clear hv0 hI0
            go_wp2_with fail
            go_roundw
            case rel =>
              refine ⟨j + 1, by omega, by go_num, ?_⟩
              rw [HN.out]
              show LoopS a b c d g ab sb W w4 (interB (A', B', C', D') (x0, y0, x1, y1), f, cols, offs', ok) _ _ _ _
              rw [HI0.out]
              exact HL5.out
            case measure => simp [intOf]; omega
          | true =>
            by_cases hm : Meet A' B' C' D' x0 y0 x1 y1
            · have HM := Lib.hid hm
              have HIY := Lib.hid (interB_yes hm)
              clear hm
              go_wp2_with fail
              refine (common_yes _ _ _ _ _ _ _ _ _ HM.out).mono ?_
              rintro e w5 ⟨rfl, hg5⟩
              generalize max A' x0 = M0 at *
              generalize max B' y0 = M1 at *
              generalize min C' x1 = M2 at *
              generalize min D' y1 = M3 at *
              have HSN5 := Lib.hid (HSEEN.out.grows hg5)
              replace HLV := Lib.hid (HLV.out.grows hg5)
              clear hg5 k0 k1 k2 k3 s0 s1 s2 s3 s4 s5 s6 s7 s8 s9 s10 t0 t1' t2' t3' t4' t5' q0 q1 q2 q3
              have kf := HSN5.out.frozen
              obtain ⟨k0, k1, k2, k3⟩ := HSN5.out.cells
              have KS := Lib.hid ((((HSN5.out.set0 M0).set1 M1).set2 M2).set3 M3)
              have hgs : w5.grownBy ((((w5.setCell ⟨sb, 0, none⟩ (.int .i64 M0)).setCell ⟨sb, 1, none⟩ (.int .i64 M1)).setCell ⟨sb, 2, none⟩ (.int .i64 M2)).setCell ⟨sb, 3, none⟩ (.int .i64 M3)) (some sb) := only_set (only_set (only_set (only_set (World.grownBy.refl _ _) _ _) _ _) _ _) _ _
              have HL5 := Lib.hid (HLV.out.view (u := (M0, M1, M2, M3)) (so := true) hsbW KS.out hgs (fun h => absurd h (by simp)))
              clear hgs KS
              go_wp2_with fail
              go_roundw
              case rel =>
                refine ⟨j + 1, by omega, by go_num, ?_⟩
                rw [HN.out]
                show LoopS a b c d g ab sb W _ (interB (A', B', C', D') (x0, y0, x1, y1), f, cols, offs', ok) _ _ _ _
                rw [HIY.out]
                exact HL5.out
              case measure => simp [intOf]; omega
            · have HM := Lib.hid hm
              have HIY := Lib.hid (interB_no hm)
              clear hm
              go_wp2_with fail
              refine (common_no _ _ _ _ _ _ _ _ _ HM.out).mono ?_
              rintro e w5 ⟨rfl, hg5⟩
              obtain ⟨M0, hM0⟩ : ∃ M : Int, M = 0 := ⟨_, rfl⟩
              obtain ⟨M1, hM1⟩ : ∃ M : Int, M = 0 := ⟨_, rfl⟩
              obtain ⟨M2, hM2⟩ : ∃ M : Int, M = 0 := ⟨_, rfl⟩
              obtain ⟨M3, hM3⟩ : ∃ M : Int, M = 0 := ⟨_, rfl⟩
              have hmz : ((M0, M1, M2, M3) : Bx) = (0, 0, 0, 0) := by rw [hM0, hM1, hM2, hM3]
              have HMZ := Lib.hid hmz
              have hbz : box4 0 0 0 0 = box4 M0 M1 M2 M3 := by rw [hM0, hM1, hM2, hM3]
              rw [← HMZ.out] at HIY
              rw [hbz]
              clear hM0 hM1 hM2 hM3 hbz hmz
              have HSN5 := Lib.hid (HSEEN.out.grows hg5)
              replace HLV := Lib.hid (HLV.out.grows hg5)
              clear hg5 k0 k1 k2 k3 s0 s1 s2 s3 s4 s5 s6 s7 s8 s9 s10 t0 t1' t2' t3' t4' t5' q0 q1 q2 q3
              have kf := HSN5.out.frozen
              obtain ⟨k0, k1, k2, k3⟩ := HSN5.out.cells
              have KS := Lib.hid ((((HSN5.out.set0 M0).set1 M1).set2 M2).set3 M3)
              have hgs : w5.grownBy ((((w5.setCell ⟨sb, 0, none⟩ (.int .i64 M0)).setCell ⟨sb, 1, none⟩ (.int .i64 M1)).setCell ⟨sb, 2, none⟩ (.int .i64 M2)).setCell ⟨sb, 3, none⟩ (.int .i64 M3)) (some sb) := only_set (only_set (only_set (only_set (World.grownBy.refl _ _) _ _) _ _) _ _) _ _
              have HL5 := Lib.hid (HLV.out.view (u := (M0, M1, M2, M3)) (so := false) hsbW KS.out hgs (fun _ => HMZ.out))
              clear hgs KS
              go_wp2_with fail
              go_roundw
              case rel =>
                refine ⟨j + 1, by omega, by go_num, ?_⟩
                rw [HN.out]
                show LoopS a b c d g ab sb W _ (interB (A', B', C', D') (x0, y0, x1, y1), f, cols, offs', ok) _ _ _ _
                rw [HIY.out]
                exact HL5.out
              case measure => simp [intOf]; omega
        by_cases t5 : t = 5
        · subst t5
          generalize decide (InB (A', B', C', D') x y) = dd at *
          have kf := HSEEN.out.frozen
          have KS := Lib.hid ((((HSEEN.out.set0 a).set1 b).set2 c).set3 d)
          have hgs : w4.grownBy ((((w4.setCell ⟨sb, 0, none⟩ (.int .i64 a)).setCell ⟨sb, 1, none⟩ (.int .i64 b)).setCell ⟨sb, 2, none⟩ (.int .i64 c)).setCell ⟨sb, 3, none⟩ (.int .i64 d)) (some sb) := only_set (only_set (only_set (only_set (World.grownBy.refl _ _) _ _) _ _) _ _) _ _
          have HL5 := Lib.hid (HLV.out.view (u := (a, b, c, d)) (so := true) hsbW KS.out hgs (by simp))
          clear hgs KS
          go_wp2_with fail
          go_roundw
          case rel => exact ⟨j + 1, by omega, by go_num, by rw [HN.out]; exact HL5.out⟩
          case measure => simp [intOf]; omega
        · have b1 : (t == 1) = false := by simp [t1]
          have b2 : (t == 2) = false := by simp [t2]
          have b3 : (t == 3) = false := by simp [t3]
          have b4 : (t == 4) = false := by simp [t4]
          have b5 : (t == 5) = false := by simp [t5]
          have hst : stp a b c d 4 ((A', B', C', D'), f, cols, offs', ok) (t, x, y, (r, g', bl, al), (x0, y0, x1, y1)) = ((A', B', C', D'), f, cols, offs', ok) := by
            simp only [stp, if_neg t1, if_neg t2, if_neg t3, if_neg t4, if_neg t5]
          have HST := Lib.hid hst
          have HL5 := Lib.hid HLV.out.more
          clear t1 t2 t3 t4 t5 hst
          generalize decide (InB (A', B', C', D') x y) = dd at *
          go_wp2_with fail
          go_roundw
          case rel => exact ⟨j + 1, by omega, by go_num, by rw [HN.out, HST.out]; exact HL5.out⟩
          case measure => simp [intOf]; omega
    · have hjl : j = ss.length := by omega
      have hb3 : decide ((j : Int) < ss.length) = false := decide_eq_false (by omega)
      rw [hjl, List.take_length] at hlv
      have HLV := Lib.hid hlv
      obtain ⟨offs, so, hall⟩ := hlv
      have HALL := Lib.hid hall
      clear hall HS5 hjl
      generalize runF a b c d 4 (byteAt zs) ss = S at *
      have HPIC := Lib.hid HALL.out.1
      have HGR : Hid (Grows W wr) := HALL.out.2.2.2.2.2.1.2
      obtain ⟨Ao, ko, hvo⟩ := HALL.out.2.2.2.2.2.1.form
      have hvcf : ∃ A c, u14 = .slice A S.2.2.1.length c := by
        obtain ⟨vals, hov, _⟩ := HALL.out.2.2.2.2.1
        rcases hov.2 with ⟨rfl, h0⟩ | ⟨g2, cap, cur, hv, _⟩
        · exact ⟨none, 0, by rw [h0]⟩
        · exact ⟨_, _, hv⟩
      obtain ⟨Ac, kc, hvc⟩ := hvcf
      subst hvc hvo
      go_upto_region 29 with fail
      apply wp_region_lex_lit 5 (by kernel_rfl) (by kernel_rfl)
      iterate 5
        apply lex_pin
        · intro wq hgq hdq Kq hKq
          obtain ⟨t0, t1, t2, t3, t4, t5⟩ := (HPIC.out.grows ((Grows.rfl' _).drew'.step hgq)).cells
          go_wp2
          exact hKq _ (Grows.rfl' _)
        · kernel_rfl
      refine lex_end ?_
      intro w5 hg5 _
      have hg5' : Grows wr w5 := (Grows.rfl' _).drew'.step hg5
      have hgW5 : Grows W w5 := HGR.out.step hg5'
      have hb4 : w5.heap[w.heap.size + 1]? = some (.cells #[.int .i64 0, .int .i64 0, .int .i64 0, .int .i64 0, .int .i64 0, .slice none 0 0] 34 (0, 0)) := (hgW5.block _ (by omega)).trans HBX.out
      obtain ⟨e0, e1, e2, e3, e4, e5⟩ := block_cells hb4
      have z5 := block_frozen hb4
      have hgs : w5.grownBy (stored w5 (w.heap.size + 1) (.int .i64 a) (.int .i64 b) (.int .i64 c) (.int .i64 d) (.int .i64 (sd a c 4)) (.slice (some ⟨g, 0, none⟩) (total a b c d 4) (total a b c d 4))) (some (w.heap.size + 1)) := stored_grown _ _ _ _ _ _
      have HOO := Lib.hid (stored_own ((HALL.out.2.2.2.2.2.1.later hg5').base HGW.out) hb4 (by omega) (.int .i64 a) (.int .i64 b) (.int .i64 c) (.int .i64 d) (.int .i64 (sd a c 4)) (.slice (some ⟨g, 0, none⟩) (total a b c d 4) (total a b c d 4)))
      have hcols5 : ColsAt W w5 g (.slice Ao offs.length ko) (.slice Ac S.2.2.1.length kc) S.2.2.1 := HALL.out.2.2.2.2.1.kept (grown_of (row := none) hg5') (fun k hk => by simp) (fun gj _ _ _ => by simp)
      have HCC : Hid (ColsAt w (stored w5 (w.heap.size + 1) (.int .i64 a) (.int .i64 b) (.int .i64 c) (.int .i64 d) (.int .i64 (sd a c 4)) (.slice (some ⟨g, 0, none⟩) (total a b c d 4) (total a b c d 4))) g (.slice Ao offs.length ko) (.slice Ac S.2.2.1.length kc) S.2.2.1) := (hcols5.kept hgs (fun k hk e => by
        obtain ⟨vals, hov, _⟩ := hcols5
        have := (own_block hov hk).1
        simp only [Option.some.injEq] at e
        omega) (fun gj _ _ hx e => by
        obtain ⟨cur, hb⟩ := hx
        exact ne_of_type hb hb4 ne1 (by simpa using e.symm))).base HGW.out
      have HXX : Hid (Ix (stored w5 (w.heap.size + 1) (.int .i64 a) (.int .i64 b) (.int .i64 c) (.int .i64 d) (.int .i64 (sd a c 4)) (.slice (some ⟨g, 0, none⟩) (total a b c d 4) (total a b c d 4))) g (total a b c d 4) S.2.1) := by
        have hx := HALL.out.2.1.grows hg5'
        exact hx.block (hgs.block g hx.lt fun e => by simp only [Option.some.injEq] at e; omega)
      have HOL : Hid ((S.2.2.2.2 = true → offs = S.2.2.2.1) ∧ (offs.length ≤ 1600000000000 ∧ ∀ n ∈ offs, -9223372036854775808 ≤ n ∧ n ≤ 9223372036854775807)) := ⟨HALL.out.2.2.2.2.2.2.2.1, by have := HALL.out.2.2.2.2.2.2.2.2.1; omega, HALL.out.2.2.2.2.2.2.2.2.2⟩
      have hgw : w.heap.size ≤ g := by omega
      clear hb4 hgs hcols5 hgW5 hg5' hg5 HALL HPIC HGR HLV HBX HF HR HRB HRB2
      go_wp2_with fail
      exact bodyPost_ret (v := .tuple #[.slice Ac S.2.2.1.length kc, .slice Ao offs.length ko, .agg #[.int .i64 a, .int .i64 b, .int .i64 c, .int .i64 d, .int .i64 (sd a c 4), .slice (some ⟨g, 0, none⟩) (total a b c d 4) (total a b c d 4)]]) (by simp [results, Try.results38, go_sem, e0, e1, e2, e3, e4, e5]) rfl ⟨_, _, g, offs, rfl, HXX.out, hgw, HCC.out, HOO.out, HOL.out⟩
end Go.Proofs.Ytbedollfokdldaa

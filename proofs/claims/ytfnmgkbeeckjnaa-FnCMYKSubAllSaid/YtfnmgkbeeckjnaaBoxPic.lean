/-
  A picture put into a box of its own whose making is in no order with the making of the picture: the box lies apart from the picture's row by its type. Conditions stand in each theorem.
-/
import Derived.Test.YtfnmgkbeeckjnaaSamePic
import Derived.Test.YtfnmgkbeeckjnaaPutF
namespace Go.Proofs.Ytfnmgkbeeckjnaa
open Go.RowKit
set_option linter.unusedVariables false

/-- A new box for a picture, made since the world W. -/
def ZeroBox (W : World) (v : Value) (w : World) : Prop := ∃ pb, v = .pointer (some ⟨pb, 0, none⟩) ∧ W.heap.size ≤ pb ∧ w.heap[pb]? = some (.cells #[.int .i64 0, .int .i64 0, .int .i64 0, .int .i64 0, .int .i64 0, .slice none 0 0] 44 (0, 0))
theorem ZeroBox.keep {W : World} (v : Value) (w w' : World) (hg : Grows w w') (h : ZeroBox W v w) : ZeroBox W v w' := by
  obtain ⟨pb, h1, h2, h3⟩ := h
  refine ⟨pb, h1, h2, (hg.block pb ?_).trans h3⟩
  exact (Array.getElem?_eq_some_iff.1 h3).1

/-- The picture's bytes are in memory made since the world W. -/
def OwnPic (a b c d st : Int) (zs : List Int) (W : World) (v : Value) (w : World) : Prop := ∃ p, v = .agg #[.int .i64 a, .int .i64 b, .int .i64 c, .int .i64 d, .int .i64 st, p] ∧ OwnI W w p zs
theorem OwnPic.keep {a b c d st : Int} {zs : List Int} {W : World} (v : Value) (w w' : World) (hg : Grows w w') (h : OwnPic a b c d st zs W v w) : OwnPic a b c d st zs W v w' := by
  obtain ⟨p, h1, h2⟩ := h
  exact ⟨p, h1, h2.later hg⟩
theorem NewPic.own {a b c d st : Int} {zs : List Int} {W0 W w : World} {e : Ending} (h : NewPic a b c d st zs W e w) (hg : Grows W0 W) : ∃ v, e = .returned v ∧ Grows W w ∧ OwnPic a b c d st zs W0 v w := by
  obtain ⟨v, rfl, ho⟩ := h
  exact ⟨_, rfl, ho.2, v, rfl, ho.base hg⟩
theorem OwnPic.isPic {a b c d st : Int} {zs : List Int} {W w : World} {v : Value} (h : OwnPic a b c d st zs W v w) (hl : zs.length ≤ 17592186044416) (hz : ∀ n ∈ zs, -9223372036854775808 ≤ n ∧ n ≤ 9223372036854775807) : IsPic a b c d st zs v w := by
  obtain ⟨p, h1, h2⟩ := h
  exact ⟨p, h1, h2.rd hl hz⟩

theorem type_apart : (3 : TypeId) ≠ 44 := by decide

/-- The world behind the store of a picture into such a box. -/
def stored (w : World) (pb : Nat) (v0 v1 v2 v3 v4 v5 : Value) : World :=
  (((((w.setCell ⟨pb, 0, none⟩ v0).setCell ⟨pb, 1, none⟩ v1).setCell ⟨pb, 2, none⟩ v2).setCell ⟨pb, 3, none⟩ v3).setCell ⟨pb, 4, none⟩ v4).setCell ⟨pb, 5, none⟩ v5

theorem stored_block {w : World} {pb : Nat} {T : TypeId} {c0 c1 c2 c3 c4 c5 : Value} (h : w.heap[pb]? = some (.cells #[c0, c1, c2, c3, c4, c5] T (0, 0))) (v0 v1 v2 v3 v4 v5 : Value) :
    (stored w pb v0 v1 v2 v3 v4 v5).heap[pb]? = some (.cells #[v0, v1, v2, v3, v4, v5] T (0, 0)) := by
  simp [stored, World.setCell, Array.getElem?_modify, h]

theorem stored_grown {w : World} {pb : Nat} (v0 v1 v2 v3 v4 v5 : Value) : w.grownBy (stored w pb v0 v1 v2 v3 v4 v5) (some pb) := by
  unfold stored
  iterate 6 refine only_set ?_ _ _
  exact World.grownBy.refl _ _

theorem stored_grows {W w : World} {pb : Nat} (h : Grows W w) (hp : W.heap.size ≤ pb) (v0 v1 v2 v3 v4 v5 : Value) : Grows W (stored w pb v0 v1 v2 v3 v4 v5) :=
  h.grown' (stored_grown v0 v1 v2 v3 v4 v5) fun k hk => by
    have e : pb = k := by simpa using hk
    omega

theorem stored_own {W w : World} {pb : Nat} {p : Value} {zs : List Int} {cs : Array Value} (h : OwnI W w p zs) (hb : w.heap[pb]? = some (.cells cs 44 (0, 0))) (hp : W.heap.size ≤ pb) (v0 v1 v2 v3 v4 v5 : Value) : OwnI W (stored w pb v0 v1 v2 v3 v4 v5) p zs := by
  refine ⟨h.1.kept (stored_grown v0 v1 v2 v3 v4 v5) ?_, stored_grows h.2 hp _ _ _ _ _ _⟩
  rcases h.1.2 with ⟨rfl, _⟩ | ⟨g, cap, cur, rfl, hg, hh, _⟩
  · exact .inl rfl
  · refine .inr fun e => ?_
    have e' : g = pb := by simpa [Value.ownBlock] using e
    subst e'
    rw [hb] at hh
    simp at hh

/-- Block pb holds a picture. -/
def PicAt (w : World) (pb : Nat) (a b c d st : Int) (p : Value) : Prop := w.heap[pb]? = some (.cells #[.int .i64 a, .int .i64 b, .int .i64 c, .int .i64 d, .int .i64 st, p] 44 (0, 0))
theorem PicAt.lt {w : World} {pb : Nat} {a b c d st : Int} {p : Value} (h : PicAt w pb a b c d st p) : pb < w.heap.size := (Array.getElem?_eq_some_iff.1 h).1
theorem PicAt.grows {w w' : World} {pb : Nat} {a b c d st : Int} {p : Value} (h : PicAt w pb a b c d st p) (hg : Grows w w') : PicAt w' pb a b c d st p := (hg.block pb h.lt).trans h
theorem PicAt.cells {w : World} {pb : Nat} {a b c d st : Int} {p : Value} (h : PicAt w pb a b c d st p) :
    w.cell? ⟨pb, 0, none⟩ = some (.int .i64 a) ∧ w.cell? ⟨pb, 1, none⟩ = some (.int .i64 b) ∧ w.cell? ⟨pb, 2, none⟩ = some (.int .i64 c) ∧ w.cell? ⟨pb, 3, none⟩ = some (.int .i64 d) ∧ w.cell? ⟨pb, 4, none⟩ = some (.int .i64 st) ∧ w.cell? ⟨pb, 5, none⟩ = some p := by
  unfold PicAt at h
  simp [World.cell?, h]

theorem block_cells {w : World} {pb : Nat} {T : TypeId} {c0 c1 c2 c3 c4 c5 : Value} (h : w.heap[pb]? = some (.cells #[c0, c1, c2, c3, c4, c5] T (0, 0))) :
    w.cell? ⟨pb, 0, none⟩ = some c0 ∧ w.cell? ⟨pb, 1, none⟩ = some c1 ∧ w.cell? ⟨pb, 2, none⟩ = some c2 ∧ w.cell? ⟨pb, 3, none⟩ = some c3 ∧ w.cell? ⟨pb, 4, none⟩ = some c4 ∧ w.cell? ⟨pb, 5, none⟩ = some c5 := by
  simp [World.cell?, h]
theorem block_frozen {w : World} {pb : Nat} {T : TypeId} {cs : Array Value} (h : w.heap[pb]? = some (.cells cs T (0, 0))) : ∀ o, w.frozen? ⟨pb, o, none⟩ = false := by
  intro o
  simp [World.frozen?, h]
end Go.Proofs.Ytfnmgkbeeckjnaa

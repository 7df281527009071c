/-
  Small lemmas for the rows' frames: structs of four ints that come in by value are opened to their numbers. No condition.
-/
import Derived.Test.YtcohenlemddpfaaBase
import Derived.Test.YtcohenlemddpfaaRows
import Derived.ProofKit
import Derived.OpenShut
import Derived.ShutString
import Derived.ChangeOld
import Derived.SizedLaws
import Derived.Lib.SmallJoins
namespace Go.Proofs.Ytcohenlemddpfaa
open Go.ChangeShapes Go.WideShapes Go.ChangeAt Go.RowKit Go.Joins Go.Deep

theorem own : ownKnob Try.prog.godebug = none := by kernel_rfl
theorem laidOut : laidOutB Try.prog = true := by kernel_rfl
theorem cells23 : Try.prog.cellsOf 23 = 4 := by kernel_rfl

set_option maxRecDepth 20000 in
theorem open_four {H : Type} {enc : TypeId × Value → H} {w : World} {base : Nat} {spare : Nat → Bool} {held : Bool} {r : Reach} {b0 : Nat} {t : TypeId} {f0 f1 f2 f3 : Field} {v : Value} {d : DataW H} {p : List MemPlace}
    (hs : Try.prog.underlying t = some (.struct #[f0, f1, f2, f3])) (hone : oneCellFields Try.prog #[f0, f1, f2, f3] = true) (hC : Try.prog.cellsOf t = 4)
    (hv : Value.okWide Try.prog w r b0 t v) (h : DataW.Trod enc Try.prog w base spare held t v d p) (e0 : f0.type = 3 := by rfl) (e1 : f1.type = 3 := by rfl) (e2 : f2.type = 3 := by rfl) (e3 : f3.type = 3 := by rfl) :
    ∃ a b c d : Int, v = .agg #[.int .i64 a, .int .i64 b, .int .i64 c, .int .i64 d] ∧ ((-9223372036854775808 ≤ a ∧ a ≤ 9223372036854775807) ∧ (-9223372036854775808 ≤ b ∧ b ≤ 9223372036854775807) ∧ (-9223372036854775808 ≤ c ∧ c ≤ 9223372036854775807) ∧ (-9223372036854775808 ≤ d ∧ d ≤ 9223372036854775807)) := by
  obtain ⟨c0, c1, c2, c3, y0, y1, y2, y3, n, rfl, _, _, h0, h1, h2, h3⟩ := open_agg4 hs hone hC hv h
  rw [e0] at h0
  rw [e1] at h1
  rw [e2] at h2
  rw [e3] at h3
  obtain ⟨a0, q0, _, w0⟩ := DataW.trod_int Try.underlying3 h0
  obtain ⟨a1, q1, _, w1⟩ := DataW.trod_int Try.underlying3 h1
  obtain ⟨a2, q2, _, w2⟩ := DataW.trod_int Try.underlying3 h2
  obtain ⟨a3, q3, _, w3⟩ := DataW.trod_int Try.underlying3 h3
  simp at q0 q1 q2 q3
  subst q0 q1 q2 q3
  exact ⟨a0, a1, a2, a3, rfl, bounds_i64 w0, bounds_i64 w1, bounds_i64 w2, bounds_i64 w3⟩

theorem cellsInt : Try.prog.cellsOf 3 = 1 := by kernel_rfl
theorem bytesInt : Try.prog.bytesOf 3 = 8 := by kernel_rfl

set_option maxRecDepth 20000 in
theorem open_list {H : Type} {enc : TypeId × Value → H} {w : World} {r : Reach} {b0 : Nat} {v : Value} {d : DataW H} {p : List MemPlace}
    (hv : Value.okWide Try.prog w r b0 24 v) (h : DataW.Trod enc Try.prog w 0 (fun _ => true) true 24 v d p)
    (hs : ∀ el sp, d = .slice el sp → (el.length + sp.length) * Try.prog.bytesOf 3 ≤ reachBytes) : ∃ zs, RdI w v zs := by
  obtain ⟨a0, len, cap, rfl⟩ := okWide_slice Try.underlying24 hv
  obtain ⟨fuel, hf⟩ := h
  rcases open_ints Try.underlying24 Try.underlying3 cellsInt hf with ⟨hcs, _⟩ | ⟨x, l, c, zs, hcs, _, hl, hm, hz, hx, hcell, hwz⟩
  · simp [Value.cells] at hcs
    obtain ⟨rfl, rfl, rfl⟩ := hcs
    exact ⟨[], Rd.nil⟩
  · simp [Value.cells] at hcs
    obtain ⟨rfl, rfl, rfl⟩ := hcs
    have hz' : zs.length = cap := by simpa using hz
    simp only [Prod.mk.injEq] at hx
    have h1 := hs _ _ hx.1
    rw [bytesInt] at h1
    simp only [lits, List.length_map, List.length_take, List.length_drop, reachBytes] at h1
    unfold maxLen at hm
    have hlen : (zs.take len).length = len := by rw [List.length_take]; omega
    refine ⟨zs.take len, _, cap, by rw [hlen], by rw [hlen]; exact hl, hm, by rw [hlen]; omega, fun n hn => bounds_i64 (hwz n (List.mem_of_mem_take hn)), fun j n hj => ?_⟩
    have hjl : j < len := by have := (List.getElem?_eq_some_iff.1 hj).1; omega
    rw [List.getElem?_take_of_lt hjl] at hj
    have hc := hcell j (by omega)
    obtain ⟨b, off, spot⟩ := x
    have hspot : spot = none := by
      have := World.cell?_spot (hcell 0 (by omega))
      simpa [Addr.add] using this
    subst hspot
    refine ⟨b, off, rfl, ?_⟩
    have e : (⟨b, off, none⟩ : Addr).add j = ⟨b, off + j, none⟩ := by unfold Addr.add; split <;> simp_all
    rw [e] at hc
    rw [hc]
    simp [List.getD, hj]
end Go.Proofs.Ytcohenlemddpfaa

/-
  append of steps, and of colors, as one operation: what it leaves of the rows that were there. Conditions stand in each theorem.
-/
import Derived.Test.YtnbplionaojabaaSteps
import Derived.Test.YtnbplionaojabaaFlo
import Derived.Test.YtnbplionaojabaaSameCol
import Derived.Laws.AppendOwnNone
namespace Go.Proofs.Ytnbplionaojabaa
open Go.RowKit
set_option linter.unusedVariables false

/-- Every block is there behind it, as great as it was, and its first n cells are as they were. -/
def Pres (n : Nat) (w w' : World) : Prop := ∀ (g : Nat) (cur : Array Value) (e : TypeId) (z : Nat × Nat), w.heap[g]? = some (.cells cur e z) → ∃ cur', w'.heap[g]? = some (.cells cur' e z) ∧ cur'.size = cur.size ∧ ∀ i, i < n → cur'[i]? = cur[i]?
theorem Pres.of_grows {n : Nat} {w w' : World} (h : Grows w w') : Pres n w w' := fun g cur e z hg => ⟨cur, (h.block g (Array.getElem?_eq_some_iff.1 hg).1).trans hg, rfl, fun _ _ => rfl⟩
theorem Pres.row {n : Nat} {w w' : World} {base m k : Nat} {e : TypeId} {v : Value} {xs : List Value} (h : Pres n w w') (hk : m * k ≤ n) (ho : w.ownsRow base e k v m xs) : w'.ownsRow base e k v m xs := by
  refine ⟨ho.1, ?_⟩
  rcases ho.2 with h2 | ⟨g, cap, cur, hv, hb, hh, h3, h4, h5, h6⟩
  · exact .inl h2
  · obtain ⟨cur', e1, e2, e3⟩ := h g cur _ _ hh
    refine .inr ⟨g, cap, cur', hv, hb, e1, h3, h4, by omega, ?_⟩
    rw [← h6]
    apply List.ext_getElem?
    intro i
    by_cases hi : i < m * k
    · rw [List.getElem?_take_of_lt hi, List.getElem?_take_of_lt hi, Array.getElem?_toList, Array.getElem?_toList]
      exact e3 i (by omega)
    · rw [List.getElem?_eq_none (by simp; omega), List.getElem?_eq_none (by simp; omega)]
theorem Pres.one {n : Nat} {w w' : World} {s : Stp} {v : Value} (h : Pres n w w') (hn : 11 ≤ n) (ho : OneStp s v w) : OneStp s v w' := by
  obtain ⟨g, hv, hs⟩ := ho
  refine ⟨g, hv, fun i m hi => ?_⟩
  have hc := hs i m hi
  have hi11 : i < 11 := by have := (List.getElem?_eq_some_iff.1 hi).1; rwa [nums_length] at this
  unfold World.cell? at hc ⊢
  simp only at hc ⊢
  cases hg : w.heap[g]? with
  | none => rw [hg] at hc; simp at hc
  | some o =>
    rw [hg] at hc
    cases o with
    | cells cur e z =>
      obtain ⟨cur', e1, e2, e3⟩ := h g cur e z hg
      rw [e1]
      simp only at hc ⊢
      rw [e3 i (by omega)]
      exact hc
    | _ => simp at hc

/-- append onto a row of the call's own: what it leaves of the rows that were there. -/
theorem run_append_frame {P : Program} (w : World) (base : Nat) (t ty e : TypeId) (i : TypeInfo) (z : Value) (size bytes : Nat) (ht : P.underlying t = some (.slice e)) (hi : P.info? e = some i) (hz : i.zero = some z)
    (hsize : i.size = size) (hby : i.bytes = bytes) (hzs : z.cells.size = size) (hsz : 0 < size)
    (v : Value) (n : Nat) (xs : List Value) (hown : w.ownsRow base e size v n xs)
    (a : Addr) (m c : Nat) (news : List Value) (hl : news.length = m * size) (hnews : ∀ j u, news[j]? = some u → w.cell? (a.add j) = some u) (h1 : ∀ u ∈ news, u.oneCell' = true)
    (h63 : n + m ≤ maxLen) (hbytes : ((n + m) + (n + m) / 4 + 192) * bytes ≤ 281474976710656) (hbase : base ≤ w.heap.size) :
    ∃ v' w', (Builtin.append_ #[t, t] ty #[v, .slice (some a) m c]).run P w = .ok v' w' ∧ w'.ownsRow base e size v' (n + m) (xs ++ news) ∧ w.grownBy w' v.ownBlock ∧
      (v' = .slice none 0 0 ↔ v = .slice none 0 0 ∧ m = 0) ∧ (Grows w w' ∨ (v ≠ .slice none 0 0 ∧ Pres (n * size) w w')) := by
  obtain ⟨v', w', hr, h2, h3, h4⟩ := run_append_own_wide (P := P) w base t ty e i z size bytes ht hi hz hsize hby hzs hsz v n xs hown a m c news hl hnews h1 h63 hbytes hbase
  refine ⟨v', w', hr, h2, h3, h4, ?_⟩
  subst hsize hby
  rcases hown.2 with ⟨rfl, rfl⟩ | ⟨g, cap, cur, rfl, hbg, hg, hnc, hcm, hcs, htake⟩
  · exact .inl ((Grows.rfl' w).grown' h3 fun k hk => by simp [Value.ownBlock] at hk)
  · have h63' : n + m ≤ 9223372036854775807 := by simp only [maxLen] at h63; omega
    by_cases hroom : n + m ≤ cap
    · have hfit : n * i.size + news.length ≤ cur.size := by rw [hl, hcs, ← Nat.add_mul]; exact Nat.mul_le_mul_right _ hroom
      have hr2 := run_append_room (P := P) w t ty e i ht hi g n cap cur hg a m c news hl hnews h1 hroom hfit
      rw [hr2] at hr
      simp only [Result.ok.injEq] at hr
      obtain ⟨_, rfl⟩ := hr
      refine .inr ⟨by simp, fun k cur2 e2 z2 hk => ?_⟩
      by_cases hkg : k = g
      · subst hkg
        rw [hg] at hk
        simp only [Option.some.injEq, Obj.cells.injEq] at hk
        obtain ⟨rfl, rfl, rfl⟩ := hk
        refine ⟨_, setRow_heap w k cur _ e _ hg, ?_, fun j hj => ?_⟩
        · simp only [List.size_toArray, List.length_append, List.length_take, List.length_drop, Array.length_toList]
          omega
        · rw [List.getElem?_toArray, List.append_assoc, List.getElem?_append_left (by simp; omega), List.getElem?_take_of_lt hj, Array.getElem?_toList]
      · exact ⟨cur2, (setRow_other w g k _ hkg).trans hk, rfl, fun _ _ => rfl⟩
    · have holds : ∀ j u, xs[j]? = some u → w.cell? ((⟨g, 0, none⟩ : Addr).add j) = some u := hown.cells (g := g) rfl
      have hr2 := run_append_grow (P := P) w t ty e i z ht hi hz ⟨g, 0, none⟩ n cap xs hown.1 holds a m c news hl hnews (by omega) (by omega) (growslice_fits_wide (by omega) hbytes)
      rw [hr2] at hr
      simp only [Result.ok.injEq] at hr
      obtain ⟨_, rfl⟩ := hr
      exact .inl ((Grows.rfl' w).drew'.alloc' _)

theorem flat_len (l : List Stp) : (l.flatMap nums).length = l.length * 11 := by
  induction l with
  | nil => rfl
  | cons s t ih => rw [List.flatMap_cons, List.length_append, ih, nums_length, List.length_cons]; omega

/-- Steps that the region owns; none at all if there are none. -/
def RowS (B : Nat) (ss : List Stp) (v : Value) (w : World) : Prop := w.ownsRow B 48 11 v ss.length ((ss.flatMap nums).map (Value.int .i64)) ∧ (ss = [] → v = .slice none 0 0)
theorem RowS.keep {B : Nat} {ss : List Stp} (v : Value) (w w' : World) (hg : Grows w w') (h : RowS B ss v w) : RowS B ss v w' := ⟨(Pres.of_grows (n := ss.length * 11) hg).row (Nat.le_refl _) h.1, h.2⟩
theorem RowS.pres {B n : Nat} {ss : List Stp} {v : Value} {w w' : World} (hp : Pres n w w') (hn : ss.length * 11 ≤ n) (h : RowS B ss v w) : RowS B ss v w' := ⟨hp.row hn h.1, h.2⟩

/-- append of steps in a region: the earlier rows stay. -/
theorem appS_wp {ops : Array Oper} {rest : List Oper} {o : Oper} {a : Act} {Q : Exit → Act → World → Prop} {w : World} (hgd : o.guard = none) (s x : Operand)
    (ho : o.op = .call { callee := .builtin .append, args := #[s, x], argTypes := #[28, 28] }) (B : Nat) (hB : B ≤ w.heap.size) (v : Value) (ss ts : List Stp) (hs : a.eval s = v) (hown : RowS B ss v w)
    (u : Value) (hx : a.eval x = u) (hu : RdS w u ts) (hu0 : ∀ c, u = .slice none 0 c → c = 0) (hl : ss.length + ts.length ≤ 1600000000001)
    (h : ∀ v' w', RowS B (ss ++ ts) v' w' → w.grownBy w' v.ownBlock → (Grows w w' ∨ (ss ≠ [] ∧ Pres (ss.length * 11) w w')) → wpList Try.prog ops Q rest (a.put o.dst v') w') : wpList Try.prog ops Q (o :: rest) a w := by
  obtain ⟨i0, hi, hz0, hz1, hz2⟩ := info_parts info_step
  obtain ⟨A, c, rfl, hc1, hc2, hc3, hc4, hc5⟩ := hu
  cases A with
  | none =>
    have ht : ts = [] := by
      cases ts with
      | nil => rfl
      | cons n t => obtain ⟨b, o, e, _⟩ := hc5 0 n rfl; cases e
    subst ht
    have hc0 : c = 0 := hu0 c rfl
    subst hc0
    refine wpList_append_own_none hgd s x 28 ho B 48 i0 11 Try.underlying28 hi v ss.length _ hs hown.1 hx ?_
    exact h v w (by rw [List.append_nil]; exact hown) (grown_of (Grows.rfl' _)) (.inl (Grows.rfl' _))
  | some ad =>
    refine wpList_plain hgd fun K hK => ?_
    obtain ⟨v', w', hr, h2, h3, h4, h5⟩ := run_append_frame (P := Try.prog) w B 28 o.type 48 i0 _ 11 88 Try.underlying28 hi hz0 hz1 hz2 rfl (by decide) v ss.length _ hown.1 ad ts.length c ((ts.flatMap nums).map (Value.int .i64)) (by rw [List.length_map, flat_len]) (by
      intro j u hj
      rw [List.getElem?_map] at hj
      obtain ⟨m, hm, rfl⟩ := Option.map_eq_some_iff.1 hj
      have hjl : j < ts.length * 11 := by have := (List.getElem?_eq_some_iff.1 hm).1; rwa [flat_len] at this
      have hq : j / 11 < ts.length := by omega
      have hts : ts[j / 11]? = some ts[j / 11] := List.getElem?_eq_getElem hq
      have hf := flat_at (i := j % 11) hts (by omega)
      have e0 : j / 11 * 11 + j % 11 = j := by omega
      rw [e0, hm] at hf
      obtain ⟨b, off, e1, hcell⟩ := hc5 _ _ hts
      cases e1
      have e : (⟨b, off, none⟩ : Addr).add j = ⟨b, off + j / 11 * 11 + j % 11, none⟩ := by
        unfold Addr.add
        split
        · simp_all
        · simp only [Addr.mk.injEq, true_and, and_true]; omega
      rw [e]
      exact hcell _ _ hf.symm) (by
      intro u hu
      obtain ⟨m, _, rfl⟩ := List.mem_map.1 hu
      rfl) (by unfold maxLen; omega) (by omega) hB
    unfold Oper.wp execOp
    simp only [ho, resolve, invoke, builtin, Sem.run_bind, Sem.run_pure, Result.andThen_ok, List.map_toArray, List.map_cons, List.map_nil, hs, hx, hr]
    refine hK _ _ (h v' w' ⟨by simpa using h2, fun hn => ?_⟩ h3 ?_)
    · have hss : ss = [] := (List.append_eq_nil_iff.1 hn).1
      have hts : ts = [] := (List.append_eq_nil_iff.1 hn).2
      exact h4.2 ⟨hown.2 hss, by rw [hts]; rfl⟩
    · rcases h5 with h5 | ⟨h5, h6⟩
      · exact .inl h5
      · exact .inr ⟨fun hn => h5 (hown.2 hn), h6⟩

/-- append of colors onto colors of the call's own -/
theorem appC_wp {ops : Array Oper} {rest : List Oper} {o : Oper} {a : Act} {Q : Exit → Act → World → Prop} {w : World} (hgd : o.guard = none) (s x : Operand)
    (ho : o.op = .call { callee := .builtin .append, args := #[s, x], argTypes := #[32, 32] }) (W W' : World) (v u : Value) (cs ds : List (List Int)) (hs : a.eval s = v) (hown : OwnC W w v cs)
    (hx : a.eval x = u) (hu : OwnC W' w u ds) (hl : cs.length + ds.length ≤ 4000000000000)
    (h : ∀ v' w', OwnC W w' v' (cs ++ ds) → w.grownBy w' v.ownBlock → wpList Try.prog ops Q rest (a.put o.dst v') w') : wpList Try.prog ops Q (o :: rest) a w := by
  obtain ⟨i0, hi, hz0, hz1, hz2⟩ := info_parts info_color
  rcases hu.1.2 with ⟨rfl, h0⟩ | ⟨g, cap, cur, rfl, _⟩
  · have e : ds = [] := List.eq_nil_of_length_eq_zero h0
    subst e
    refine wpList_append_own_none hgd s x 32 ho W.heap.size 46 i0 4 Try.underlying32 hi v cs.length _ hs hown.1 hx ?_
    exact h v w (by rw [List.append_nil]; exact hown) (grown_of (Grows.rfl' _))
  · refine wpList_append_own w hgd s x 32 ho W.heap.size 46 i0 (.agg #[.int .i64 0, .int .i64 0, .int .i64 0, .int .i64 0]) 4 32 Try.underlying32 hi hz0 hz1 hz2 rfl (by decide) v cs.length _ hs hown.1 ⟨g, 0, none⟩ ds.length cap (ds.flatten.map (Value.int .i64)) hx hu.1.1 (hu.1.cells (g := g) rfl) ?_ ?_ ?_ hown.2.size ?_
    · intro u' hu'
      obtain ⟨m, _, rfl⟩ := List.mem_map.1 hu'
      rfl
    · unfold maxLen; omega
    · omega
    · intro v' w' ho' hg _
      refine h v' w' ⟨by simpa using ho', ?_⟩ hg
      exact hown.2.grown' hg fun k hk => (hown.1.lt k hk).1

/-- A write into memory that the region has made, with a value. -/
theorem flo_push {P : Program} {ops : Array Oper} {w0 : World} {Q : Exit → Act → World → Prop} {n : Nat} {o : Oper} {l : List Oper} {ss : List Fs} {qs : List Nat} {V : List Value} {D : List (World → Prop)} {a : Act} (Ψ : Value → World → Prop) (hs : ∀ v w w', Grows w w' → Ψ v w → Ψ v w')
    (h : ∀ w, Grows w0 w → Deps ops D.length D w → ∀ K : Act → World → Prop, (∀ v w', Grows w0 w' → Keeps D w w' → Ψ v w' → K (a.put o.dst v) w') → wpList P ops (KPost K) [o] a w)
    (hq : qs.all (fun q => reach ops ops.size D.length q) = true)
    (hr : ∀ v, wpFlo P ops w0 Q n l ss (D.length :: qs) (V ++ [v]) (D ++ [Ψ v]) (a.put o.dst v)) : wpFlo P ops w0 Q (n + 1) (o :: l) ({ s := .any Ψ, wr := true } :: ss) qs V D a :=
  ⟨hs, rfl, fun w hg hd => atM_of_wp fun K hK => h w hg hd K fun v w' h1 h2 h3 => hK v w' (by simpa using ⟨h1, h2⟩) h3, fun _ => hq, fun v => hr v⟩

theorem RdS.take {w : World} {A : Option Addr} {c k : Nat} {ss : List Stp} (h : RdS w (.slice A ss.length c) ss) (hk : k ≤ ss.length) : RdS w (.slice A k c) (ss.take k) := by
  obtain ⟨A', c', e, h2, h2', h3, h4, h5⟩ := h
  simp only [Value.slice.injEq, true_and] at e
  obtain ⟨rfl, rfl⟩ := e
  have hl : (ss.take k).length = k := by rw [List.length_take]; omega
  refine ⟨A, c, by rw [hl], by omega, h2', by omega, fun s hs => h4 s (List.mem_of_mem_take hs), fun j s hj => ?_⟩
  have hjl : j < k := by have := (List.getElem?_eq_some_iff.1 hj).1; omega
  rw [List.getElem?_take_of_lt hjl] at hj
  exact h5 j s hj
theorem RdS.drop {w : World} {b o c k : Nat} {ss : List Stp} (h : RdS w (.slice (some ⟨b, o, none⟩) ss.length c) ss) (hk : k ≤ ss.length) (o' c' : Nat) (ho : k < ss.length → o' = o + k * 11) (hc : ss.length - k ≤ c' ∧ c' ≤ c) : RdS w (.slice (some ⟨b, o', none⟩) (ss.length - k) c') (ss.drop k) := by
  obtain ⟨A', c'', e, h2, h2', h3, h4, h5⟩ := h
  simp only [Value.slice.injEq, true_and] at e
  obtain ⟨rfl, rfl⟩ := e
  have hl : (ss.drop k).length = ss.length - k := List.length_drop
  refine ⟨_, c', by rw [hl], by omega, by omega, by omega, fun s hs => h4 s (List.mem_of_mem_drop hs), fun j s hj => ?_⟩
  have hjl : j < ss.length - k := by have := (List.getElem?_eq_some_iff.1 hj).1; omega
  rw [List.getElem?_drop] at hj
  obtain ⟨b2, o2, e2, hc2⟩ := h5 _ s hj
  simp only [Option.some.injEq, Addr.mk.injEq, and_true] at e2
  obtain ⟨rfl, rfl⟩ := e2
  refine ⟨b, o', rfl, fun i n hi => ?_⟩
  have := hc2 i n hi
  rw [ho (by omega)]
  have e3 : o + k * 11 + j * 11 + i = o + (k + j) * 11 + i := by rw [Nat.add_mul]; omega
  rw [e3]
  exact this
end Go.Proofs.Ytnbplionaojabaa

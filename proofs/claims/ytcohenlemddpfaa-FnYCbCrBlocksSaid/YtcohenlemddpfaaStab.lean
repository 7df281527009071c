/-
  A rule for a region that draws its order and whose operations write nothing that was there (they read, compute, call, and may make new memory): one walk in the order of the text serves every order.
  Each operation is given a specification: 'pin c' (it yields the value c) or 'any Φ' (it yields some value v with Φ v at the later world; Φ is kept by growth). Conditions: none beyond those stated in each theorem.
-/
import Derived.WalkKit
import Derived.Orders
import Derived.Still
import Derived.KernelRfl
namespace Go.Proofs.Ytcohenlemddpfaa
open Go.RowKit

/-- The world has grown: nothing that was there has changed. -/
abbrev Grows (w w' : World) : Prop := Below w.heap.size w w'

theorem Grows.rfl' (w : World) : Grows w w := Below.refl _ _
theorem Grows.step {a b c : World} (h : Grows a b) (k : Grows b c) : Grows a c := Below.trans h (Below.mono k h.size)
theorem Grows.drew' {a b : World} (h : Grows a b) : Grows a b.drew := Below.drew h
theorem Grows.alloc' {a b : World} (h : Grows a b) (o : Obj) : Grows a (b.alloc o) := Below.alloc h h.size o

/-- What is asked of one operation. -/
inductive Sp where
  | pin (c : Value)
  | any (Φ : Value → World → Prop)

def Sp.val : Sp → Value → Value
  | .pin c, _ => c
  | .any _, v => v

def Sp.holds : Sp → Value → World → Prop
  | .pin c, v, _ => v = c
  | .any Φ, v, w => Φ v w

def Sp.stable : Sp → Prop
  | .pin _ => True
  | .any Φ => ∀ v w w', Grows w w' → Φ v w → Φ v w'

theorem Sp.keep {s : Sp} (hs : s.stable) {v : Value} {w w' : World} (hg : Grows w w') (h : s.holds v w) : s.holds v w' := by
  cases s with
  | pin c => exact h
  | any Φ => exact hs v w w' hg h

theorem Sp.val_of {s : Sp} {v : Value} {w : World} (h : s.holds v w) : s.val v = v := by
  cases s with
  | pin c => exact (show v = c from h).symm
  | any Φ => rfl

/-- Put into slot 'dst' of a frame of n slots, v and u come to the same. -/
def SameAt (n : Nat) (dst : Option Tmp) (v u : Value) : Prop := ∀ b : Act, b.tmps.size = n → b.put dst v = b.put dst u

theorem sameAt_of {a : Act} {dst : Option Tmp} {v u : Value} (h : a.put dst v = a.put dst u) : SameAt a.tmps.size dst v u := by
  intro b hb
  cases dst with
  | none => rfl
  | some d =>
    rcases Nat.lt_or_ge d a.tmps.size with hd | hd
    · have h1 : (a.tmps.setIfInBounds d v)[d]? = (a.tmps.setIfInBounds d u)[d]? := congrArg (fun x : Act => x.tmps[d]?) h
      simp [hd] at h1
      rw [h1]
    · show ({ b with tmps := b.tmps.setIfInBounds d v } : Act) = { b with tmps := b.tmps.setIfInBounds d u }
      rw [Array.setIfInBounds_eq_of_size_le (by omega), Array.setIfInBounds_eq_of_size_le (by omega)]

/-- What one operation must do in the world w. -/
def Sp.upon (P : Program) (n : Nat) (dst : Option Tmp) (w : World) (s : Sp) : Result Next → Prop
  | .ok (.value v) w' => Grows w w' ∧ ∃ u, SameAt n dst v u ∧ s.holds u w'
  | .ok .skip w' => Grows w w' ∧ ∃ u, SameAt n dst undef u ∧ s.holds u w'
  | .ok (.enter f args) w' => Calls P f args w' fun e w'' => ∃ v, e = .returned v ∧ Grows w w'' ∧ ∃ u, SameAt n dst v u ∧ s.holds u w''
  | .ok (.row row args) w' => Rows P row args w' fun v w'' => Grows w w'' ∧ ∃ u, SameAt n dst v u ∧ s.holds u w''
  | _ => False

def Sp.at (P : Program) (ops : Array Oper) (o : Oper) (a : Act) (w : World) (s : Sp) : Prop :=
  if Region.wanted o (yielded ops a.tmps) then s.upon P a.tmps.size o.dst w ((execOp a.eval o).run P w) else ∃ u, SameAt a.tmps.size o.dst undef u ∧ s.holds u w

/-- For each operation, as the bits of a number: the operations that it is behind, directly or through others. -/
def maskOf (acc : Array Nat) (o : Oper) : Nat := o.after.toList.foldl (fun s e => if Region.binds .any e then s ||| (2 ^ e.on ||| acc.getD e.on 0) else s) 0

def masks : List Oper → Array Nat → Array Nat
  | [], acc => acc
  | o :: l, acc => masks l (acc.push (maskOf acc o))

/-- Operation i is (directly or through others) behind operation j. -/
def reach (ops : Array Oper) (_ : Nat) (i j : Nat) : Bool := ((masks ops.toList #[]).getD i 0).testBit j

def closed (ops : Array Oper) (listed : Nat → Bool) : Prop :=
  ∀ i o, ops[i]? = some o → listed i = true → ∀ e ∈ o.after, Region.binds .any e = true → listed e.on = true

theorem mask_bit (acc : Array Nat) (j : Nat) : ∀ (es : List Edge) (s : Nat), (es.foldl (fun s e => if Region.binds .any e then s ||| (2 ^ e.on ||| acc.getD e.on 0) else s) s).testBit j = true →
    s.testBit j = true ∨ ∃ e ∈ es, Region.binds .any e = true ∧ (e.on = j ∨ (acc.getD e.on 0).testBit j = true)
  | [], s, h => .inl h
  | e :: es, s, h => by
    rw [List.foldl_cons] at h
    rcases mask_bit acc j es _ h with h1 | ⟨e', he', hb, h2⟩
    · by_cases hb : Region.binds .any e = true
      · rw [if_pos hb, Nat.testBit_or, Nat.testBit_or] at h1
        simp only [Bool.or_eq_true, Nat.testBit_two_pow, decide_eq_true_eq] at h1
        rcases h1 with h1 | h1 | h1
        · exact .inl h1
        · exact .inr ⟨e, by simp, hb, .inl h1⟩
        · exact .inr ⟨e, by simp, hb, .inr h1⟩
      · rw [if_neg hb] at h1
        exact .inl h1
    · exact .inr ⟨e', by simp [he'], hb, h2⟩

theorem masks_good {ops : Array Oper} {listed : Nat → Bool} (hc : closed ops listed) : ∀ (l : List Oper) (acc : Array Nat), (∀ k, l[k]? = ops[acc.size + k]?) →
    (∀ i j, (acc.getD i 0).testBit j = true → listed i = true → listed j = true) → ∀ i j, ((masks l acc).getD i 0).testBit j = true → listed i = true → listed j = true
  | [], acc, _, h => h
  | o :: l, acc, hl, h => by
    refine masks_good hc l (acc.push (maskOf acc o)) (fun k => by have := hl (k + 1); simpa [Nat.add_assoc, Nat.add_comm 1 k] using this) fun i j hb hi => ?_
    have ho : ops[acc.size]? = some o := by simpa using (hl 0).symm
    simp only [Array.getD_eq_getD_getElem?, Array.getElem?_push] at hb
    by_cases hik : i = acc.size
    · subst hik
      simp only [if_true, Option.getD_some] at hb
      unfold maskOf at hb
      rcases mask_bit acc j _ 0 hb with h0 | ⟨e, he, hbe, h2⟩
      · simp at h0
      · have hle := hc _ o ho hi e (by simpa using he) hbe
        rcases h2 with rfl | h2
        · exact hle
        · exact h _ _ h2 hle
    · rw [if_neg hik] at hb
      exact h i j (by simpa [Array.getD_eq_getD_getElem?] using hb) hi

theorem reach_listed {ops : Array Oper} {listed : Nat → Bool} (hc : closed ops listed) (fuel i j : Nat) (h : reach ops fuel i j = true) (hi : listed i = true) : listed j = true :=
  masks_good hc ops.toList #[] (by simp) (by intro i j h; simp at h) i j h hi

/-- The look at a region: its edges lead back; no select; each slot is written once; what an operation looks at is written ahead of it by something that it is behind, or behind it by something that is behind it. -/
def stabPair (ops : Array Oper) (i j : Nat) (oi oj : Oper) : Bool :=
  match oi.dst with
  | none => true
  | some d =>
    if i == j then !(oj.looksAt ops).contains d
    else (oj.dst != some d) && (!(oj.looksAt ops).contains d || (Nat.blt i j && reach ops ops.size j i) || (Nat.blt j i && reach ops ops.size i j))

def stabB (ops : Array Oper) : Bool :=
  Region.noSelect ops &&
  (List.range ops.size).all fun i => (List.range ops.size).all fun j =>
    match ops[i]?, ops[j]? with
    | some oi, some oj => stabPair ops i j oi oj && (i != j || !reach ops ops.size j j && oj.after.all (fun e => !Region.binds .any e || Nat.blt e.on j))
    | _, _ => true

theorem stabB_pair {ops : Array Oper} (h : stabB ops = true) {i j : Nat} {oi oj : Oper} (hi : ops[i]? = some oi) (hj : ops[j]? = some oj) :
    stabPair ops i j oi oj = true := by
  simp only [stabB, Bool.and_eq_true, List.all_eq_true, List.mem_range] at h
  have h1 := h.2 i (Array.getElem?_eq_some_iff.1 hi).1 j (Array.getElem?_eq_some_iff.1 hj).1
  simp only [hi, hj, Bool.and_eq_true] at h1
  exact h1.1

theorem stabB_self {ops : Array Oper} (h : stabB ops = true) {j : Nat} {oj : Oper} (hj : ops[j]? = some oj) :
    reach ops ops.size j j = false ∧ ∀ e ∈ oj.after, Region.binds .any e = true → e.on < j := by
  simp only [stabB, Bool.and_eq_true, List.all_eq_true, List.mem_range] at h
  have h1 := h.2 j (Array.getElem?_eq_some_iff.1 hj).1 j (Array.getElem?_eq_some_iff.1 hj).1
  simp only [hj, bne_self_eq_false, Bool.false_or, Bool.and_eq_true, Array.all_eq_true', Bool.not_eq_true'] at h1
  refine ⟨h1.2.1, fun e he hb => ?_⟩
  have := h1.2.2 e he
  simp only [hb, Bool.not_true, Bool.false_or] at this
  exact Nat.blt_eq.mp this

/-- The frame: those of the first k operations that are listed have put their values. -/
def putS (ops : Array Oper) (a : Act) (S : Nat → Bool) (vals : Nat → Value) : Nat → Act
  | 0 => a
  | k + 1 => if S k then (putS ops a S vals k).put ((ops[k]?).bind (·.dst)) (vals k) else putS ops a S vals k

theorem put_tmps (a : Act) (d : Tmp) (v : Value) (t : Nat) : (a.put (some d) v).tmps[t]? = (a.tmps.setIfInBounds d v)[t]? := rfl

theorem putS_defers (ops : Array Oper) (a : Act) (S : Nat → Bool) (vals : Nat → Value) : ∀ k, (putS ops a S vals k).defers = a.defers
  | 0 => rfl
  | k + 1 => by
    unfold putS
    split
    · cases (ops[k]?).bind (·.dst) <;> exact putS_defers ops a S vals k
    · exact putS_defers ops a S vals k

theorem putS_size (ops : Array Oper) (a : Act) (S : Nat → Bool) (vals : Nat → Value) : ∀ k, (putS ops a S vals k).tmps.size = a.tmps.size
  | 0 => rfl
  | k + 1 => by
    unfold putS
    split
    · cases (ops[k]?).bind (·.dst) with
      | none => exact putS_size ops a S vals k
      | some d => show (Array.setIfInBounds _ _ _).size = _; rw [Array.size_setIfInBounds]; exact putS_size ops a S vals k
    · exact putS_size ops a S vals k

/-- A slot that no listed operation writes is as it was. -/
theorem putS_none {ops : Array Oper} {a : Act} {S : Nat → Bool} {vals : Nat → Value} {t : Nat} : ∀ k, (∀ i, i < k → S i = true → (ops[i]?).bind (·.dst) ≠ some t) → (putS ops a S vals k).tmps[t]? = a.tmps[t]?
  | 0, _ => rfl
  | k + 1, h => by
    have ih := putS_none (ops := ops) (a := a) (S := S) (vals := vals) (t := t) k fun i hi => h i (by omega)
    unfold putS
    split
    · rename_i hS
      have hk := h k (by omega) hS
      cases hd : (ops[k]?).bind (·.dst) with
      | none => exact ih
      | some d =>
        rw [put_tmps, Array.getElem?_setIfInBounds_ne (by intro e; subst e; exact hk hd)]
        exact ih
    · exact ih

/-- A slot that one listed operation alone writes. -/
theorem putS_one {ops : Array Oper} {a : Act} {S : Nat → Bool} {vals : Nat → Value} {t i : Nat} (hS : S i = true) (hd : (ops[i]?).bind (·.dst) = some t) :
    ∀ k, i < k → (∀ j, j < k → j ≠ i → (ops[j]?).bind (·.dst) ≠ some t) → (putS ops a S vals k).tmps[t]? = if t < a.tmps.size then some (vals i) else none
  | 0, hk, _ => absurd hk (by omega)
  | k + 1, hk, h => by
    by_cases hik : i = k
    · subst hik
      unfold putS
      rw [if_pos hS, hd, put_tmps, Array.getElem?_setIfInBounds, putS_size]
      simp
    · have ih := putS_one (a := a) (vals := vals) hS hd k (by omega) fun j hj => h j (by omega)
      unfold putS
      split
      · have hkd := h k (by omega) (fun e => hik e.symm)
        cases hd' : (ops[k]?).bind (·.dst) with
        | none => exact ih
        | some d =>
          rw [put_tmps, Array.getElem?_setIfInBounds_ne (by intro e; subst e; exact hkd hd')]
          exact ih
      · exact ih

theorem eval_of {a b : Act} {x : Operand} (h : ∀ t, x = .tmp t → a.tmps[t]? = b.tmps[t]?) : a.eval x = b.eval x := by
  cases x with
  | tmp t => have := h t rfl; simp [Act.eval, this]
  | _ => rfl

theorem yielded_of {ops : Array Oper} {a b : Act} {j : Nat} (h : ∀ t, (ops[j]?).bind (·.dst) = some t → a.tmps[t]? = b.tmps[t]?) : yielded ops a.tmps j = yielded ops b.tmps j := by
  unfold yielded
  cases hd : (ops[j]?).bind (·.dst) with
  | none => rfl
  | some t => simp [h t hd]

theorem wanted_of {ops : Array Oper} {a b : Act} {o : Oper} (h : ∀ t ∈ o.looksAt ops, a.tmps[t]? = b.tmps[t]?) : Region.wanted o (yielded ops a.tmps) = Region.wanted o (yielded ops b.tmps) := by
  unfold Region.wanted
  cases hg : o.guard with
  | none => rfl
  | some g =>
    obtain ⟨g1, g2⟩ := g
    have : yielded ops a.tmps g1 = yielded ops b.tmps g1 := yielded_of fun t ht => h t (by unfold Oper.looksAt; simp [hg, ht])
    simp only [this]

theorem exec_of {ops : Array Oper} {a b : Act} {o : Oper} (hs : ∀ cs b, o.op ≠ .select cs b) (h : ∀ t ∈ o.looksAt ops, a.tmps[t]? = b.tmps[t]?) : execOp a.eval o = execOp b.eval o :=
  execOp_congr o hs fun x hx => eval_of fun t ht => h t (by
    subst ht
    exact List.mem_append_left _ (List.mem_filterMap.2 ⟨.tmp t, by simpa using hx, rfl⟩))

/-- In whatever order: operation j sees what it sees in the order of the text. -/
theorem sees {ops : Array Oper} (hB : stabB ops = true) {a : Act} {S : Nat → Bool} (hc : closed ops S) {vals : Nat → Value} {j : Nat} {o : Oper} (hj : ops[j]? = some o) (hjS : S j = false)
    (hdep : ∀ i, reach ops ops.size j i = true → S i = true) : ∀ t ∈ o.looksAt ops, (putS ops a S vals ops.size).tmps[t]? = (putS ops a (fun _ => true) vals j).tmps[t]? := by
  intro t ht
  have hjl : j < ops.size := (Array.getElem?_eq_some_iff.1 hj).1
  by_cases hw : ∃ i, i < ops.size ∧ (ops[i]?).bind (·.dst) = some t
  · obtain ⟨i, hil, hid⟩ := hw
    obtain ⟨oi, hoi, hdi⟩ : ∃ oi, ops[i]? = some oi ∧ oi.dst = some t := by
      cases ho : ops[i]? with
      | none => simp [ho] at hid
      | some oi => exact ⟨oi, rfl, by simpa [ho] using hid⟩
    have huniq : ∀ k, k < ops.size → k ≠ i → (ops[k]?).bind (·.dst) ≠ some t := by
      intro k hk hki hkd
      obtain ⟨ok, hok, hdk⟩ : ∃ ok, ops[k]? = some ok ∧ ok.dst = some t := by
        cases ho : ops[k]? with
        | none => simp [ho] at hkd
        | some ok => exact ⟨ok, rfl, by simpa [ho] using hkd⟩
      have := stabB_pair hB hoi hok
      simp only [stabPair, hdi] at this
      rw [if_neg (by simpa using fun e => hki e.symm)] at this
      simp [hdk] at this
    have hp := stabB_pair hB hoi hj
    simp only [stabPair, hdi] at hp
    have hin : (o.looksAt ops).contains t = true := by simpa using ht
    by_cases hij : i = j
    · subst hij
      simp at hp
      exact absurd ht hp
    · rw [if_neg (by simpa using hij)] at hp
      simp only [hin, Bool.not_true, Bool.false_or, Bool.and_eq_true, Bool.or_eq_true] at hp
      rcases hp.2 with ⟨h1, h2⟩ | ⟨h1, h2⟩
      · have hlt : i < j := Nat.blt_eq.mp h1
        rw [putS_one (hdep i h2) hid ops.size hil (fun k hk => huniq k hk), putS_one (S := fun _ => true) rfl hid j hlt (fun k hk => huniq k (by omega))]
      · have hlt : j < i := Nat.blt_eq.mp h1
        have hiS : S i = false := by
          cases hSi : S i with
          | false => rfl
          | true => rw [reach_listed hc _ _ _ h2 hSi] at hjS; cases hjS
        rw [putS_none ops.size (fun k hk hS hd => ?_), putS_none j (fun k hk _ => huniq k (by omega) (by omega))]
        by_cases hki : k = i
        · subst hki; rw [hiS] at hS; cases hS
        · exact huniq k hk hki hd
  · have hno : ∀ k, k < ops.size → (ops[k]?).bind (·.dst) ≠ some t := fun k hk hd => hw ⟨k, hk, hd⟩
    rw [putS_none ops.size (fun k hk _ => hno k hk), putS_none j (fun k hk _ => hno k (by omega))]

theorem putS_congr {ops : Array Oper} {a : Act} {S S' : Nat → Bool} {vals vals' : Nat → Value} : ∀ k, (∀ i, i < k → S i = S' i) → (∀ i, i < k → S i = true → vals i = vals' i) → putS ops a S vals k = putS ops a S' vals' k
  | 0, _, _ => rfl
  | k + 1, h1, h2 => by
    have ih := putS_congr (ops := ops) (a := a) (S := S) (S' := S') (vals := vals) (vals' := vals') k (fun i hi => h1 i (by omega)) (fun i hi => h2 i (by omega))
    unfold putS
    rw [← h1 k (by omega), ih]
    split
    · rename_i hS; rw [h2 k (by omega) hS]
    · rfl

/-- A put is carried outward. -/
theorem putS_put {ops : Array Oper} (hB : stabB ops = true) {a : Act} {S : Nat → Bool} {vals : Nat → Value} {j : Nat} {o : Oper} (hj : ops[j]? = some o) (hjS : S j = false) (v : Value) :
    ∀ k, k ≤ ops.size → putS ops a (fun i => S i || i == j) (fun i => if i == j then v else vals i) k = if j < k then (putS ops a S vals k).put o.dst v else putS ops a S vals k
  | 0, _ => by simp [putS]
  | k + 1, hk => by
    have ih := putS_put hB (a := a) (vals := vals) hj hjS v k (by omega)
    unfold putS
    by_cases hkj : k = j
    · subst hkj
      rw [ih]
      simp [hjS, hj]
    · rw [ih]
      have hb : (k == j) = false := by simpa using hkj
      simp only [hb, Bool.or_false]
      by_cases hlt : j < k
      · have h1 : j < k + 1 := by omega
        simp only [hlt, h1, if_true]
        by_cases hSk : S k = true
        · simp only [hSk, if_true]
          have hkl : k < ops.size := by omega
          have hok : ops[k]? = some ops[k] := Array.getElem?_eq_getElem hkl
          simp only [hok, Option.bind_some]
          refine Act.put_comm _ _ _ fun d hd hd' => ?_
          have := stabB_pair hB hj hok
          simp only [stabPair, hd] at this
          rw [if_neg (by simpa using fun e => hkj e.symm)] at this
          simp [hd'] at this
        · simp only [hSk]
          rfl
      · have h1 : ¬ j < k + 1 := by omega
        simp [hlt, h1]

def open_ (ops : Array Oper) (listed : Array Bool) : Nat := ((List.range ops.size).filter fun i => !listed.getD i true).length

theorem open_set {ops : Array Oper} {listed : Array Bool} {i : Nat} (hi : i < ops.size) (hl : listed.getD i true = false) : open_ ops (listed.setIfInBounds i true) < open_ ops listed := by
  unfold open_
  have hsub : ((List.range ops.size).filter fun k => !(listed.setIfInBounds i true).getD k true) = ((List.range ops.size).filter fun k => !listed.getD k true).filter (fun k => k != i) := by
    rw [List.filter_filter]
    refine List.filter_congr fun k _ => ?_
    by_cases hki : i = k
    · subst hki
      have hlt : i < listed.size := by
        rcases Nat.lt_or_ge i listed.size with h | h
        · exact h
        · simp [Array.getElem?_eq_none h] at hl
      simp [hlt]
    · rw [getD_set_ne true hki]
      have : (k != i) = true := by simpa using fun e => hki e.symm
      simp [this]
  rw [hsub]
  refine List.length_filter_lt_length_iff_exists.2 ⟨i, ?_, by simp⟩
  simp only [List.mem_filter, List.mem_range, hl]
  exact ⟨hi, rfl⟩

variable {P : Program} {ops : Array Oper} {Q : Exit → Act → World → Prop} {a0 : Act} {w0 : World} {sp : Nat → Sp}

theorem upon_wp {o : Oper} {a : Act} {w : World} {s : Sp} {K : Act → World → Prop} (h : s.upon P a.tmps.size o.dst w ((execOp a.eval o).run P w)) (hK : ∀ v w', Grows w w' → s.holds v w' → K (a.put o.dst v) w') : o.wp P a w K Q := by
  unfold Oper.wp
  generalize (execOp a.eval o).run P w = r at *
  cases r with
  | ok n w' =>
    cases n <;> simp only [Sp.upon] at h <;> simp only [Oper.upon]
    case value v => obtain ⟨h1, u, h2, h3⟩ := h; rw [h2 a rfl]; exact hK _ _ h1 h3
    case skip => obtain ⟨h1, u, h2, h3⟩ := h; rw [h2 a rfl]; exact hK _ _ h1 h3
    case enter f args =>
      refine Calls.mono h fun e w'' he => ?_
      obtain ⟨v, rfl, h1, u, h2, h3⟩ := he
      show K (a.put o.dst v) w''
      rw [h2 a rfl]
      exact hK _ _ h1 h3
    case row r args =>
      refine Rows.mono h fun v w'' he => ?_
      obtain ⟨h1, u, h2, h3⟩ := he
      show K (a.put o.dst v) w''
      rw [h2 a rfl]
      exact hK _ _ h1 h3
  | halt x w' => simp only [Sp.upon] at h

/-- The post of one operation alone. -/
def KPost (K : Act → World → Prop) : Exit → Act → World → Prop
  | .normal, a, w => K a w
  | _, _, _ => False

theorem at_of_wp {o : Oper} {a : Act} {w : World} {s : Sp}
    (h : ∀ K : Act → World → Prop, (∀ v w', Grows w w' → s.holds v w' → K (a.put o.dst v) w') → wpList P ops (KPost K) [o] a w) : s.at P ops o a w := by
  have h1 := h (fun a' w' => ∃ u, a' = a.put o.dst u ∧ Grows w w' ∧ s.holds u w') fun v w' hg hh => ⟨v, rfl, hg, hh⟩
  unfold Sp.at
  simp only [wpList, KPost] at h1
  split
  · rename_i hw
    rw [if_pos hw] at h1
    rcases h1 with h1 | h1
    · unfold Oper.wp at h1
      generalize (execOp a.eval o).run P w = r at *
      cases r with
      | ok n w' =>
        cases n <;> simp only [Oper.upon] at h1 <;> simp only [Sp.upon]
        case value v => obtain ⟨u, he, hg, hh⟩ := h1; exact ⟨hg, u, sameAt_of he, hh⟩
        case skip => obtain ⟨u, he, hg, hh⟩ := h1; exact ⟨hg, u, sameAt_of he, hh⟩
        case enter f args =>
          refine Calls.mono h1 fun e w'' he => ?_
          cases e with
          | returned v => obtain ⟨u, he, hg, hh⟩ := he; exact ⟨v, rfl, hg, u, sameAt_of he, hh⟩
          | panicked c => exact he.elim
          | outgrown => obtain ⟨_, _, hf⟩ := he; exact hf.elim
        case row r args =>
          refine Rows.mono h1 fun v w'' he => ?_
          obtain ⟨u, he, hg, hh⟩ := he
          exact ⟨hg, u, sameAt_of he, hh⟩
        case defer d =>
          obtain ⟨u, he, _, _⟩ := h1
          have h2 := congrArg Act.defers he
          cases hd : o.dst <;> simp [hd, Act.put] at h2
        all_goals exact h1.elim
      | halt x w' => cases x <;> simp only [Oper.upon] at h1 <;> exact h1.elim
    · obtain ⟨_, _, _, hf⟩ := h1
      exact hf.elim
  · rename_i hw
    rw [if_neg hw] at h1
    obtain ⟨u, he, hg, hh⟩ := h1
    exact ⟨u, sameAt_of he, hh⟩

/-- Each operation from number k on is behind all that stand ahead of it. -/
def tailB (ops : Array Oper) (k : Nat) : Bool :=
  (List.range ops.size).all fun j => Nat.blt j k || (List.range j).all fun i => reach ops ops.size j i

theorem tailB_at {ops : Array Oper} {k : Nat} (h : tailB ops k = true) {j i : Nat} (hj : j < ops.size) (hk : k ≤ j) (hi : i < j) : reach ops ops.size j i = true := by
  simp only [tailB, List.all_eq_true, List.mem_range, Bool.or_eq_true] at h
  rcases h j hj with h1 | h1
  · have := Nat.blt_eq.mp h1; omega
  · exact h1 i hi

theorem ready_deps {ops : Array Oper} (hB : stabB ops = true) {listed : Array Bool} (hc : closed ops (fun i => listed.getD i false)) {j : Nat} (hj : j ∈ Region.ready .any ops listed) :
    ∀ i, reach ops ops.size j i = true → listed.getD i false = true := by
  rw [mem_ready] at hj
  obtain ⟨_, o, ho, hall⟩ := hj
  intro i hr
  have hc' : closed ops (fun i => listed.getD i false || i == j) := by
    intro i oi hoi hli e he hb
    simp only [Bool.or_eq_true, beq_iff_eq] at hli ⊢
    rcases hli with h | rfl
    · exact .inl (hc i oi hoi h e he hb)
    · rw [ho] at hoi
      cases hoi
      exact .inl (hall e he hb)
  have h1 := reach_listed hc' _ _ _ hr (by simp)
  simp only [Bool.or_eq_true, beq_iff_eq] at h1
  rcases h1 with h1 | rfl
  · exact h1
  · rw [(stabB_self hB ho).1] at hr
    cases hr

theorem closed_set {ops : Array Oper} {listed : Array Bool} (hc : closed ops (fun i => listed.getD i false)) {j : Nat} (hj : j ∈ Region.ready .any ops listed) (hlt : j < listed.size) :
    closed ops (fun i => (listed.setIfInBounds j true).getD i false) := by
  rw [mem_ready] at hj
  obtain ⟨_, o, ho, hall⟩ := hj
  have hset : ∀ i, (listed.setIfInBounds j true).getD i false = (listed.getD i false || i == j) := by
    intro i
    by_cases hij : j = i
    · subst hij
      simp [hlt]
    · rw [getD_set_ne false hij]
      have : (i == j) = false := by simpa using fun e => hij e.symm
      simp [this]
  intro i oi hoi hli e he hb
  simp only [hset] at hli ⊢
  rcases Bool.or_eq_true_iff.1 hli with h | h
  · have h' : listed.getD e.on false = true := hc i oi hoi h e he hb
    rw [h']; rfl
  · have hij : i = j := by simpa using h
    subst hij
    rw [ho] at hoi
    cases hoi
    rw [hall e he hb]; rfl

theorem ready_nil {ops : Array Oper} (hB : stabB ops = true) {listed : Array Bool} (hsz : listed.size = ops.size) (hr : Region.ready .any ops listed = []) : ∀ i, i < ops.size → listed.getD i false = true := by
  intro i
  induction i using Nat.strongRecOn with
  | ind i ih =>
    intro hi
    cases hl : listed.getD i false with
    | true => rfl
    | false =>
      exfalso
      have : i ∈ Region.ready .any ops listed := by
        rw [mem_ready]
        have hlt : i < listed.size := by omega
        refine ⟨by simpa [hlt] using hl, ops[i], Array.getElem?_eq_getElem hi, fun e he hb => ?_⟩
        have hlt' := (stabB_self hB (Array.getElem?_eq_getElem hi)).2 e he hb
        exact ih e.on hlt' (by omega)
      rw [hr] at this
      cases this

theorem open_zero {ops : Array Oper} {listed : Array Bool} (h : open_ ops listed ≤ 0) : Region.ready .any ops listed = [] := by
  cases hr : Region.ready .any ops listed with
  | nil => rfl
  | cons x xs =>
    have hx : x ∈ Region.ready .any ops listed := by rw [hr]; simp
    rw [mem_ready] at hx
    obtain ⟨h1, o, ho, _⟩ := hx
    have := open_set (ops := ops) (Array.getElem?_eq_some_iff.1 ho).1 h1
    omega

/-- The tail runs in the order of the text. -/
theorem any_tail (hB : stabB ops = true) {k : Nat} (hT : tailB ops k = true) : ∀ (fuel m : Nat) (listed : Array Bool) (a : Act) (w : World), k ≤ m → m ≤ ops.size → listed.size = ops.size → open_ ops listed ≤ fuel →
    closed ops (fun i => listed.getD i false) → (∀ i, i < ops.size → (listed.getD i false = true ↔ i < m)) → wpList P ops Q (ops.toList.drop m) a w → wpAny P .any ops Q fuel listed a w := by
  have hend : ∀ (m : Nat) (listed : Array Bool) (a : Act) (w : World), m ≤ ops.size → listed.size = ops.size → (∀ i, i < ops.size → (listed.getD i false = true ↔ i < m)) → Region.ready .any ops listed = [] →
      wpList P ops Q (ops.toList.drop m) a w → Q .normal a w := by
    intro m listed a w hm hsz hl hr h
    have hall := ready_nil hB hsz hr
    have : m = ops.size := by
      rcases Nat.lt_or_ge m ops.size with hlt | hge
      · have := (hl m hlt).1 (hall m hlt); omega
      · omega
    subst this
    rw [List.drop_of_length_le (by simp)] at h
    exact h
  intro fuel
  induction fuel with
  | zero =>
    intro m listed a w hk hm hsz hf hc hl h
    exact ⟨open_zero hf, hend m listed a w hm hsz hl (open_zero hf) h⟩
  | succ fuel ih =>
    intro m listed a w hk hm hsz hf hc hl h
    refine ⟨fun hr => hend m listed a w hm hsz hl hr h, fun j hj => ?_⟩
    have hj' := hj
    rw [mem_ready] at hj'
    obtain ⟨hjl, o, ho, hall⟩ := hj'
    have hjlt : j < ops.size := (Array.getElem?_eq_some_iff.1 ho).1
    have hjS : listed.getD j false = false := by
      have hlt : j < listed.size := by omega
      simpa [hlt] using hjl
    have hjm : j = m := by
      rcases Nat.lt_trichotomy j m with h1 | h1 | h1
      · have := (hl j hjlt).2 h1; rw [hjS] at this; cases this
      · exact h1
      · have h2 := ready_deps hB hc hj m (tailB_at hT hjlt (by omega) h1)
        have := (hl m (by omega)).1 h2
        omega
    subst hjm
    have hd : ops.toList.drop j = o :: ops.toList.drop (j + 1) := by
      have h1 : j < ops.toList.length := by simpa using hjlt
      rw [List.drop_eq_getElem_cons h1]
      have := (Array.getElem?_eq_some_iff.1 ho).2
      simp only [Array.getElem_toList]
      rw [this]
    rw [hd] at h
    have hnext : ∀ a' w', wpList P ops Q (ops.toList.drop (j + 1)) a' w' → wpAny P .any ops Q fuel (listed.setIfInBounds j true) a' w' := by
      intro a' w' h'
      refine ih (j + 1) _ a' w' (by omega) (by omega) (by simpa using hsz) (by have := open_set hjlt hjl; omega) (closed_set hc hj (by omega)) (fun i hi => ?_) h'
      by_cases hij : j = i
      · subst hij
        have hlt : j < listed.size := by omega
        simp [hlt]
      · rw [getD_set_ne false hij, hl i hi]
        omega
    unfold wpOp
    simp only [ho]
    simp only [wpList] at h
    split
    · rename_i hw
      rw [if_pos hw] at h
      exact h.imp (Oper.wp_mono hnext) id
    · rename_i hw
      rw [if_neg hw] at h
      exact hnext _ _ h

/-- Whatever order is picked. -/
theorem any_stab {k : Nat} (hk : k ≤ ops.size) (hB : stabB ops = true) (hT : tailB ops k = true) (hs : ∀ i, (sp i).stable)
    (hop : ∀ j o, ops[j]? = some o → j < k → ∀ (vals : Nat → Value) (w : World), Grows w0 w → (∀ i, reach ops ops.size j i = true → (sp i).holds (vals i) w) →
      (sp j).at P ops o (putS ops a0 (fun _ => true) (fun i => (sp i).val (vals i)) j) w)
    (hfin : ∀ (vals : Nat → Value) (w : World), Grows w0 w → (∀ i, i < k → (sp i).holds (vals i) w) → wpList P ops Q (ops.toList.drop k) (putS ops a0 (fun _ => true) (fun i => (sp i).val (vals i)) k) w) :
    ∀ (fuel : Nat) (listed : Array Bool) (vals : Nat → Value) (w : World), listed.size = ops.size → open_ ops listed ≤ fuel → closed ops (fun i => listed.getD i false) → (∀ i, k ≤ i → listed.getD i false = false) → Grows w0 w →
      (∀ i, listed.getD i false = true → (sp i).holds (vals i) w) → wpAny P .any ops Q fuel listed (putS ops a0 (fun i => listed.getD i false) (fun i => (sp i).val (vals i)) ops.size) w := by
  -- all of the first k are done
  have hdone : ∀ (fuel : Nat) (listed : Array Bool) (vals : Nat → Value) (w : World), listed.size = ops.size → open_ ops listed ≤ fuel → closed ops (fun i => listed.getD i false) → (∀ i, k ≤ i → listed.getD i false = false) → Grows w0 w →
      (∀ i, listed.getD i false = true → (sp i).holds (vals i) w) → (∀ i, i < k → listed.getD i false = true) → wpAny P .any ops Q fuel listed (putS ops a0 (fun i => listed.getD i false) (fun i => (sp i).val (vals i)) ops.size) w := by
    intro fuel listed vals w hsz hf hc hu hg hv hall
    have e : ∀ m, k ≤ m → putS ops a0 (fun i => listed.getD i false) (fun i => (sp i).val (vals i)) m = putS ops a0 (fun _ => true) (fun i => (sp i).val (vals i)) k := by
      intro m hm
      induction m with
      | zero =>
        have : k = 0 := by omega
        subst this; rfl
      | succ m ih =>
        by_cases hkm : k = m + 1
        · subst hkm
          exact putS_congr _ (fun i hi => hall i hi) (fun _ _ _ => rfl)
        · have e1 : putS ops a0 (fun i => listed.getD i false) (fun i => (sp i).val (vals i)) (m + 1) = putS ops a0 (fun i => listed.getD i false) (fun i => (sp i).val (vals i)) m :=
            if_neg (by have := hu m (by omega); simp only [this]; simp)
          rw [e1]
          exact ih (by omega)
    rw [e ops.size hk]
    refine any_tail hB hT fuel k listed _ w (Nat.le_refl _) hk hsz hf hc (fun i _ => ⟨fun h => ?_, fun h => hall i h⟩) (hfin vals w hg fun i hi => hv i (hall i hi))
    rcases Nat.lt_or_ge i k with h1 | h1
    · exact h1
    · rw [hu i h1] at h; cases h
  intro fuel
  induction fuel with
  | zero =>
    intro listed vals w hsz hf hc hu hg hv
    have hall := ready_nil hB hsz (open_zero hf)
    exact hdone 0 listed vals w hsz hf hc hu hg hv fun i hi => hall i (by omega)
  | succ fuel ih =>
    intro listed vals w hsz hf hc hu hg hv
    by_cases hallk : ∀ i, i < k → listed.getD i false = true
    · exact hdone (fuel + 1) listed vals w hsz hf hc hu hg hv hallk
    refine ⟨fun hr => absurd (fun i hi => ready_nil hB hsz hr i (by omega)) hallk, fun j hj => ?_⟩
    have hj' := hj
    rw [mem_ready] at hj'
    obtain ⟨hjl, o, ho, hall⟩ := hj'
    have hjlt : j < ops.size := (Array.getElem?_eq_some_iff.1 ho).1
    have hjS : listed.getD j false = false := by
      have hlt : j < listed.size := by omega
      simpa [hlt] using hjl
    have hdep := ready_deps hB hc hj
    have hjk : j < k := by
      rcases Nat.lt_or_ge j k with h1 | h1
      · exact h1
      · exact absurd (fun i hi => hdep i (tailB_at hT hjlt h1 (by omega))) hallk
    have hsee := sees hB (a := a0) hc (vals := fun i => (sp i).val (vals i)) ho hjS hdep
    have hsel : ∀ cs b, o.op ≠ .select cs b := fun cs b => Region.noSelect_spec (by have := hB; simp only [stabB, Bool.and_eq_true] at this; exact this.1) j o cs b ho
    have hat := hop j o ho hjk vals w hg fun i hi => hv i (hdep i hi)
    unfold Sp.at at hat
    rw [← wanted_of hsee, ← exec_of hsel hsee, putS_size, ← putS_size ops a0 (fun i => listed.getD i false) (fun i => (sp i).val (vals i)) ops.size] at hat
    -- the step
    have hnext : ∀ v w', Grows w w' → (sp j).holds v w' →
        wpAny P .any ops Q fuel (listed.setIfInBounds j true) ((putS ops a0 (fun i => listed.getD i false) (fun i => (sp i).val (vals i)) ops.size).put o.dst v) w' := by
      intro v w' hgw hh
      have hset : ∀ i, (listed.setIfInBounds j true).getD i false = (listed.getD i false || i == j) := by
        intro i
        by_cases hij : j = i
        · subst hij
          have hlt : j < listed.size := by omega
          simp [hlt]
        · rw [getD_set_ne false hij]
          have : (i == j) = false := by simpa using fun e => hij e.symm
          simp [this]
      have h1 := ih (listed.setIfInBounds j true) (fun i => if i == j then v else vals i) w' (by simpa using hsz) (by have := open_set hjlt hjl; omega)
        (closed_set hc hj (by omega))
        (by
          intro i hi
          rw [getD_set_ne false (by omega)]
          exact hu i hi)
        (Grows.step hg hgw)
        (by
          intro i hli
          simp only [hset] at hli
          by_cases hij : i = j
          · subst hij; simpa using hh
          · have hb : (i == j) = false := by simpa using hij
            simp only [hb, Bool.or_false] at hli
            simp only [hb]
            exact (sp i).keep (hs i) hgw (hv i hli))
      have h2 : putS ops a0 (fun i => (listed.setIfInBounds j true).getD i false) (fun i => (sp i).val (if i == j then v else vals i)) ops.size =
          (putS ops a0 (fun i => listed.getD i false) (fun i => (sp i).val (vals i)) ops.size).put o.dst v := by
        have h3 := putS_put hB (a := a0) (S := fun i => listed.getD i false) (vals := fun i => (sp i).val (vals i)) ho hjS v ops.size (Nat.le_refl _)
        rw [if_pos hjlt] at h3
        rw [← h3]
        refine putS_congr ops.size (fun i _ => hset i) fun i _ _ => ?_
        by_cases hij : i = j
        · subst hij
          simp [Sp.val_of hh]
        · have hb : (i == j) = false := by simpa using hij
          simp [hb]
      rw [h2] at h1
      exact h1
    unfold wpOp
    simp only [ho]
    split
    · rename_i hw
      rw [if_pos hw] at hat
      exact .inl (upon_wp hat hnext)
    · rename_i hw
      rw [if_neg hw] at hat
      obtain ⟨u, h1, h2⟩ := hat
      rw [h1 _ rfl]
      exact hnext u w (Grows.rfl' w) h2

/-! ### The walk in the order of the text -/

/-- What is known behind an operation, in every later world. -/
def Sp.fact : Sp → Value → World → Prop
  | .pin _, _ => fun _ => True
  | .any Φ, v => Φ v

theorem Sp.fact_of {s : Sp} {v : Value} {w : World} (h : s.holds v w) : s.fact (s.val v) w := by
  cases s with
  | pin c => exact True.intro
  | any Φ => exact h

/-- What is known of the values of those operations that operation number k is behind. -/
def Deps (ops : Array Oper) (k : Nat) (D : List (World → Prop)) (w : World) : Prop :=
  ∀ (i : Nat) (d : World → Prop), D[i]? = some d → reach ops ops.size k i = true → d w

def wpLex (P : Program) (ops : Array Oper) (w0 : World) (Q : Exit → Act → World → Prop) : Nat → List Oper → List Sp → List (World → Prop) → Act → Prop
  | 0, l, _, D, a => ∀ w, Grows w0 w → (∀ (i : Nat) (d : World → Prop), D[i]? = some d → d w) → wpList P ops Q l a w
  | n + 1, o :: l, s :: ss, D, a => s.stable ∧ (∀ w, Grows w0 w → Deps ops D.length D w → s.at P ops o a w) ∧ ∀ v, wpLex P ops w0 Q n l ss (D ++ [s.fact (s.val v)]) (a.put o.dst (s.val v))
  | _, _, _, _, _ => False

theorem lex_len : ∀ (n : Nat) (l : List Oper) (ss : List Sp) (D : List (World → Prop)) (a : Act), wpLex P ops w0 Q n l ss D a → n ≤ l.length ∧ n ≤ ss.length
  | 0, _, _, _, _, _ => ⟨Nat.zero_le _, Nat.zero_le _⟩
  | _ + 1, [], _, _, _, h => by simp [wpLex] at h
  | _ + 1, _ :: _, [], _, _, h => by simp [wpLex] at h
  | n + 1, o :: l, s :: ss, D, a, h => by
    have := lex_len n l ss _ _ (h.2.2 undef)
    simp only [List.length_cons]
    omega

theorem lex_stable : ∀ (n : Nat) (l : List Oper) (ss : List Sp) (D : List (World → Prop)) (a : Act), wpLex P ops w0 Q n l ss D a → ∀ s ∈ ss.take n, s.stable
  | 0, _, _, _, _, _ => by simp
  | _ + 1, [], _, _, _, h => by simp [wpLex] at h
  | _ + 1, _ :: _, [], _, _, h => by simp [wpLex] at h
  | n + 1, o :: l, s :: ss, D, a, h => by
    intro s' hs'
    rw [List.take_succ_cons] at hs'
    rcases List.mem_cons.1 hs' with rfl | h'
    · exact h.1
    · exact lex_stable n l ss _ _ (h.2.2 undef) s' h'

/-- The facts behind the first k operations. -/
def doneL (ss : List Sp) (vals : Nat → Value) (k : Nat) : List (World → Prop) := (List.range k).map fun i => (ss.getD i (.pin undef)).fact ((ss.getD i (.pin undef)).val (vals i))

theorem doneL_succ (ss : List Sp) (vals : Nat → Value) (k : Nat) : doneL ss vals (k + 1) = doneL ss vals k ++ [(ss.getD k (.pin undef)).fact ((ss.getD k (.pin undef)).val (vals k))] := by
  simp [doneL, List.range_succ]

theorem lex_at {n : Nat} {ss : List Sp} (h : wpLex P ops w0 Q n ops.toList ss [] a0) (vals : Nat → Value) : ∀ k, k ≤ n →
    wpLex P ops w0 Q (n - k) (ops.toList.drop k) (ss.drop k) (doneL ss vals k) (putS ops a0 (fun _ => true) (fun i => (ss.getD i (.pin undef)).val (vals i)) k)
  | 0, _ => by simpa [doneL, putS] using h
  | k + 1, hk => by
    have ih := lex_at h vals k (by omega)
    obtain ⟨hl1, hl2⟩ := lex_len _ _ _ _ _ h
    have hk1 : k < ops.toList.length := by omega
    have hk2 : k < ss.length := by omega
    have e0 : n - k = (n - (k + 1)) + 1 := by omega
    rw [List.drop_eq_getElem_cons hk1, List.drop_eq_getElem_cons hk2, e0] at ih
    have h1 := ih.2.2 (vals k)
    have e1 : ss.getD k (.pin undef) = ss[k] := by simp [hk2]
    rw [doneL_succ, e1]
    unfold putS
    simp only [if_true]
    have e2 : ops[k]? = some (ops.toList[k]) := by simp [Array.getElem?_eq_getElem (by simpa using hk1 : k < ops.size)]
    rw [e2, e1]
    exact h1

theorem rep_false (n i : Nat) : (Array.replicate n false).getD i false = false := by
  rw [Array.getD_eq_getD_getElem?, Array.getElem?_replicate]
  split <;> rfl

theorem wp_region_lex {id : Nat} {a : Act} {w : World} {ss : List Sp} (n : Nat) (hm : P.follows .mixedOrders = true) (hB : stabB ops = true) (hT : tailB ops n = true)
    (h : wpLex P ops w.drew Q n ops.toList ss [] a) : (Code.region id ops true).wp P Q a w := by
  obtain ⟨hl1, hl2⟩ := lex_len _ _ _ _ _ h
  have hn : n ≤ ops.size := by simpa using hl1
  have hst := lex_stable _ _ _ _ _ h
  refine wp_region_any hm ?_
  have h0 := any_stab (P := P) (ops := ops) (Q := Q) (a0 := a) (w0 := w.drew) (sp := fun i => if i < n then ss.getD i (.pin undef) else .pin undef) hn hB hT
    (fun i => by
      by_cases hi : i < n
      · have : ss.getD i (.pin undef) = ss[i] := by simp [(by omega : i < ss.length)]
        simp only [if_pos hi, this]
        refine hst _ ?_
        rw [List.mem_take_iff_getElem]
        exact ⟨i, by omega, rfl⟩
      · simp only [if_neg hi]
        trivial)
    (fun j o ho hjn vals w' hg hd => by
      have hjlt : j < ops.size := (Array.getElem?_eq_some_iff.1 ho).1
      have h1 := lex_at h vals j (by omega)
      have hk1 : j < ops.toList.length := by simpa using hjlt
      have hk2 : j < ss.length := by omega
      have e0 : n - j = (n - (j + 1)) + 1 := by omega
      rw [List.drop_eq_getElem_cons hk1, List.drop_eq_getElem_cons hk2, e0] at h1
      have e1 : ss.getD j (.pin undef) = ss[j] := by simp [hk2]
      have e2 : ops.toList[j] = o := by
        have := Array.getElem?_eq_some_iff.1 ho
        simpa using this.2
      have h2 := h1.2.1 w' hg (by
        intro i d hi hr
        have hil : i < j := by
          have := (List.getElem?_eq_some_iff.1 hi).1
          simpa [doneL] using this
        have hv := hd i (by simpa [doneL] using hr)
        simp only [if_pos (by omega : i < n)] at hv
        simp only [doneL, List.getElem?_map, List.getElem?_range hil, Option.map_some, Option.some.injEq] at hi
        subst hi
        exact Sp.fact_of hv)
      rw [e2] at h2
      simp only [if_pos hjn, e1]
      rw [putS_congr (S' := fun _ => true) (vals' := fun i => (ss.getD i (.pin undef)).val (vals i)) j (fun _ _ => rfl) (fun i hi _ => by rw [if_pos (by omega)])]
      exact h2)
    (fun vals w' hg hv => by
      have h1 := lex_at h vals n (Nat.le_refl _)
      rw [Nat.sub_self] at h1
      rw [putS_congr (S' := fun _ => true) (vals' := fun i => (ss.getD i (.pin undef)).val (vals i)) n (fun _ _ => rfl) (fun i hi _ => by rw [if_pos (by omega)])]
      exact h1 w' hg (by
        intro i d hi
        have hil : i < n := by
          have := (List.getElem?_eq_some_iff.1 hi).1
          simpa [doneL] using this
        have hv' := hv i hil
        simp only [if_pos hil] at hv'
        simp only [doneL, List.getElem?_map, List.getElem?_range hil, Option.map_some, Option.some.injEq] at hi
        subst hi
        exact Sp.fact_of hv'))
    ops.size (Array.replicate ops.size false) (fun _ => undef) w.drew (by simp)
    (by unfold open_; exact Nat.le_trans (List.length_filter_le _ _) (by simp))
    (by intro i o ho hl; have h1 := rep_false ops.size i; simp only [h1] at hl; cases hl)
    (fun i _ => rep_false _ _)
    (Grows.rfl' _) (by intro i hl; rw [rep_false] at hl; cases hl)
  have e : ∀ vv : Nat → Value, putS ops a (fun i => (Array.replicate ops.size false).getD i false) vv ops.size = a := by
    intro vv
    have : ∀ k, putS ops a (fun i => (Array.replicate ops.size false).getD i false) vv k = a := by
      intro k
      induction k with
      | zero => rfl
      | succ k ih => unfold putS; rw [if_neg (by rw [rep_false]; simp), ih]
    exact this _
  rw [e] at h0
  exact h0

/-! ### One step -/

/-- What the operation has left in its slot. -/
def slotOf (o : Oper) (a : Act) : Value := match o.dst with | some d => a.tmps.getD d undef | none => undef

/-- The place of an operation whose value is known. -/
def idle : World → Prop := fun _ => True

theorem lex_pin {n : Nat} {o : Oper} {l : List Oper} {ss : List Sp} {D : List (World → Prop)} {a : Act} (a' : Act)
    (h : ∀ w, Grows w0 w → Deps ops D.length D w → ∀ K : Act → World → Prop, (∀ w', Grows w w' → K a' w') → wpList P ops (KPost K) [o] a w)
    (ha : a.put o.dst (slotOf o a') = a')
    (hr : wpLex P ops w0 Q n l ss (D ++ [idle]) a') : wpLex P ops w0 Q (n + 1) (o :: l) (.pin (slotOf o a') :: ss) D a :=
  ⟨trivial, fun w hg hd => at_of_wp fun K hK => h w hg hd K fun w' hg' => by have := hK (slotOf o a') w' hg' rfl; rw [ha] at this; exact this, fun _ => by
    show wpLex P ops w0 Q n l ss (D ++ [idle]) (a.put o.dst (slotOf o a'))
    rw [ha]; exact hr⟩

theorem lex_any {n : Nat} {o : Oper} {l : List Oper} {ss : List Sp} {D : List (World → Prop)} {a : Act} (Φ : Value → World → Prop) (hs : ∀ v w w', Grows w w' → Φ v w → Φ v w')
    (h : ∀ w, Grows w0 w → Deps ops D.length D w → ∀ K : Act → World → Prop, (∀ v w', Grows w w' → Φ v w' → K (a.put o.dst v) w') → wpList P ops (KPost K) [o] a w)
    (hr : ∀ v, wpLex P ops w0 Q n l ss (D ++ [Φ v]) (a.put o.dst v)) : wpLex P ops w0 Q (n + 1) (o :: l) (.any Φ :: ss) D a :=
  ⟨hs, fun w hg hd => at_of_wp fun K hK => h w hg hd K fun v w' hg' hh => hK v w' hg' hh, fun v => hr v⟩

theorem lex_pinv {n : Nat} {o : Oper} {l : List Oper} {ss : List Sp} {D : List (World → Prop)} {a : Act} (c : Value)
    (h : ∀ w, Grows w0 w → Deps ops D.length D w → ∀ K : Act → World → Prop, (∀ w', Grows w w' → K (a.put o.dst c) w') → wpList P ops (KPost K) [o] a w)
    (hr : wpLex P ops w0 Q n l ss (D ++ [idle]) (a.put o.dst c)) : wpLex P ops w0 Q (n + 1) (o :: l) (.pin c :: ss) D a :=
  ⟨trivial, fun w hg hd => at_of_wp fun K hK => h w hg hd K fun w' hg' => hK c w' hg' rfl, fun _ => hr⟩

theorem lex_end {l : List Oper} {D : List (World → Prop)} {a : Act} (h : ∀ w, Grows w0 w → (∀ (i : Nat) (d : World → Prop), D[i]? = some d → d w) → wpList P ops Q l a w) : wpLex P ops w0 Q 0 l [] D a := h

/-- The walk of a region: its first n operations in the order of the text, whatever order is drawn; then the others, each of which is behind all ahead of it. -/
theorem wp_region_lex_lit {id : Nat} {a : Act} {w : World} {l : List Oper} {ss : List Sp} (n : Nat) (hm : P.follows .mixedOrders = true) (hB : (stabB l.toArray && tailB l.toArray n) = true)
    (h : wpLex P l.toArray w.drew Q n l ss [] a) : (Code.region id l.toArray true).wp P Q a w := by
  rw [Bool.and_eq_true] at hB
  exact wp_region_lex n hm hB.1 hB.2 (by simpa using h)

end Go.Proofs.Ytcohenlemddpfaa

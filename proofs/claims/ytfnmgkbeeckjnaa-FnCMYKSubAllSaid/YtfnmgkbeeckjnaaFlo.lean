/-
  The rule of the text on regions that draw their order, once more, where some operations write into memory that the region itself has made (a store into a new box): such a write may come ahead of operations that do not look at it.
  Conditions: none beyond those stated in each theorem.
-/
import Derived.Test.YtfnmgkbeeckjnaaStab
namespace Go.Proofs.Ytfnmgkbeeckjnaa
open Go.RowKit

/-- What one operation must do in a world, the worlds behind it being in M. -/
def Sp.uponM (P : Program) (n : Nat) (dst : Option Tmp) (M : World → Prop) (s : Sp) : Result Next → Prop
  | .ok (.value v) w' => M w' ∧ ∃ u, SameAt n dst v u ∧ s.holds u w'
  | .ok .skip w' => M w' ∧ ∃ u, SameAt n dst undef u ∧ s.holds u w'
  | .ok (.enter f args) w' => Calls P f args w' fun e w'' => ∃ v, e = .returned v ∧ M w'' ∧ ∃ u, SameAt n dst v u ∧ s.holds u w''
  | .ok (.row row args) w' => Rows P row args w' fun v w'' => M w'' ∧ ∃ u, SameAt n dst v u ∧ s.holds u w''
  | _ => False

def Sp.atM (P : Program) (ops : Array Oper) (o : Oper) (a : Act) (w : World) (M : World → Prop) (s : Sp) : Prop :=
  if Region.wanted o (yielded ops a.tmps) then s.uponM P a.tmps.size o.dst M ((execOp a.eval o).run P w) else M w ∧ ∃ u, SameAt a.tmps.size o.dst undef u ∧ s.holds u w

def Sp.isPin : Sp → Bool
  | .pin _ => true
  | .any _ => false

variable {P : Program} {ops : Array Oper} {Q : Exit → Act → World → Prop} {a0 : Act} {w0 : World} {sp : Nat → Sp}

theorem Sp.atM_mono {o : Oper} {a : Act} {w : World} {M M' : World → Prop} {s : Sp} (h : s.atM P ops o a w M) (hM : ∀ w', M w' → M' w') : s.atM P ops o a w M' := by
  unfold Sp.atM at *
  split
  · rename_i hw
    rw [if_pos hw] at h
    generalize (execOp a.eval o).run P w = r at *
    cases r with
    | ok n w' =>
      cases n <;> simp only [Sp.uponM] at h ⊢
      case value v => exact ⟨hM _ h.1, h.2⟩
      case skip => exact ⟨hM _ h.1, h.2⟩
      case enter f args => exact Calls.mono h fun e w'' ⟨v, he, h1, h2⟩ => ⟨v, he, hM _ h1, h2⟩
      case row r args => exact Rows.mono h fun v w'' ⟨h1, h2⟩ => ⟨hM _ h1, h2⟩
    | halt x w' => simp only [Sp.uponM] at h
  · rename_i hw
    rw [if_neg hw] at h
    exact ⟨hM _ h.1, h.2⟩

theorem uponM_wp {o : Oper} {a : Act} {w : World} {s : Sp} {M : World → Prop} {K : Act → World → Prop} (h : s.uponM P a.tmps.size o.dst M ((execOp a.eval o).run P w)) (hK : ∀ v w', M w' → s.holds v w' → K (a.put o.dst v) w') : o.wp P a w K Q := by
  unfold Oper.wp
  generalize (execOp a.eval o).run P w = r at *
  cases r with
  | ok n w' =>
    cases n <;> simp only [Sp.uponM] at h <;> simp only [Oper.upon]
    case value v => obtain ⟨h1, u, h2, h3⟩ := h; rw [h2 a rfl]; exact hK _ _ h1 h3
    case skip => obtain ⟨h1, u, h2, h3⟩ := h; rw [h2 a rfl]; exact hK _ _ h1 h3
    case enter f args =>
      refine Calls.mono h fun e w'' he => ?_
      obtain ⟨v, rfl, h1, u, h2, h3⟩ := he
      show K (a.put o.dst v) w''
      rw [h2 a rfl]
      exact hK _ _ h1 h3
    case row r args =>
      refine Rows.mono h fun v w'' he => ?_
      obtain ⟨h1, u, h2, h3⟩ := he
      show K (a.put o.dst v) w''
      rw [h2 a rfl]
      exact hK _ _ h1 h3
  | halt x w' => simp only [Sp.uponM] at h

theorem atM_of_wp {o : Oper} {a : Act} {w : World} {s : Sp} {M : World → Prop}
    (h : ∀ K : Act → World → Prop, (∀ v w', M w' → s.holds v w' → K (a.put o.dst v) w') → wpList P ops (KPost K) [o] a w) : s.atM P ops o a w M := by
  have h1 := h (fun a' w' => ∃ u, a' = a.put o.dst u ∧ M w' ∧ s.holds u w') fun v w' hg hh => ⟨v, rfl, hg, hh⟩
  unfold Sp.atM
  simp only [wpList, KPost] at h1
  split
  · rename_i hw
    rw [if_pos hw] at h1
    rcases h1 with h1 | h1
    · unfold Oper.wp at h1
      generalize (execOp a.eval o).run P w = r at *
      cases r with
      | ok n w' =>
        cases n <;> simp only [Oper.upon] at h1 <;> simp only [Sp.uponM]
        case value v => obtain ⟨u, he, hg, hh⟩ := h1; exact ⟨hg, u, sameAt_of he, hh⟩
        case skip => obtain ⟨u, he, hg, hh⟩ := h1; exact ⟨hg, u, sameAt_of he, hh⟩
        case enter f args =>
          refine Calls.mono h1 fun e w'' he => ?_
          cases e with
          | returned v => obtain ⟨u, he, hg, hh⟩ := he; exact ⟨v, rfl, hg, u, sameAt_of he, hh⟩
          | panicked c => exact he.elim
          | outgrown => obtain ⟨_, _, hf⟩ := he; exact hf.elim
        case row r args =>
          refine Rows.mono h1 fun v w'' he => ?_
          obtain ⟨u, he, hg, hh⟩ := he
          exact ⟨hg, u, sameAt_of he, hh⟩
        case defer d =>
          obtain ⟨u, he, _, _⟩ := h1
          have h2 := congrArg Act.defers he
          cases hd : o.dst <;> simp [hd, Act.put] at h2
        all_goals exact h1.elim
      | halt x w' => cases x <;> simp only [Oper.upon] at h1 <;> exact h1.elim
    · obtain ⟨_, _, _, hf⟩ := h1
      exact hf.elim
  · rename_i hw
    rw [if_neg hw] at h1
    obtain ⟨u, he, hg, hh⟩ := h1
    exact ⟨hg, u, sameAt_of he, hh⟩

/-- The worlds that operation j may lead to: nothing older than the region is changed, and what is known of the others stays known. -/
def Moves (ops : Array Oper) (w0 : World) (sp : Nat → Sp) (src : Nat → Nat) (k j : Nat) (vals : Nat → Value) (w w' : World) : Prop :=
  Grows w0 w' ∧ ∀ i, i < k → i ≠ j → reach ops ops.size i j = false → (sp i).holds (vals (src i)) w → (sp i).holds (vals (src i)) w'

/-- What is asked of operation j, which may speak of the value of an operation that it is behind. -/
def askd (sp : Nat → Sp) (src : Nat → Nat) (vals : Nat → Value) (j : Nat) : Sp := if src j = j then sp j else .any fun _ w => (sp j).holds (vals (src j)) w

/-- Whatever order is picked. -/
theorem any_flo {src : Nat → Nat} {k : Nat} (hk : k ≤ ops.size) (hB : stabB ops = true) (hT : tailB ops k = true) (hsrc : ∀ i, i < k → src i = i ∨ (src i ≠ i ∧ reach ops ops.size i (src i) = true ∧ (sp i).isPin = false))
    (hop : ∀ j o, ops[j]? = some o → j < k → ∀ (vals : Nat → Value) (w : World), Grows w0 w → (∀ i, reach ops ops.size j i = true → (sp i).holds (vals (src i)) w) →
      (askd sp src vals j).atM P ops o (putS ops a0 (fun _ => true) (fun i => (sp i).val (vals i)) j) w (Moves ops w0 sp src k j vals w))
    (hfin : ∀ (vals : Nat → Value) (w : World), Grows w0 w → (∀ i, i < k → (sp i).holds (vals (src i)) w) → wpList P ops Q (ops.toList.drop k) (putS ops a0 (fun _ => true) (fun i => (sp i).val (vals i)) k) w) :
    ∀ (fuel : Nat) (listed : Array Bool) (vals : Nat → Value) (w : World), listed.size = ops.size → open_ ops listed ≤ fuel → closed ops (fun i => listed.getD i false) → (∀ i, k ≤ i → listed.getD i false = false) → Grows w0 w →
      (∀ i, listed.getD i false = true → (sp i).holds (vals (src i)) w) → wpAny P .any ops Q fuel listed (putS ops a0 (fun i => listed.getD i false) (fun i => (sp i).val (vals i)) ops.size) w := by
  have hdone : ∀ (fuel : Nat) (listed : Array Bool) (vals : Nat → Value) (w : World), listed.size = ops.size → open_ ops listed ≤ fuel → closed ops (fun i => listed.getD i false) → (∀ i, k ≤ i → listed.getD i false = false) → Grows w0 w →
      (∀ i, listed.getD i false = true → (sp i).holds (vals (src i)) w) → (∀ i, i < k → listed.getD i false = true) → wpAny P .any ops Q fuel listed (putS ops a0 (fun i => listed.getD i false) (fun i => (sp i).val (vals i)) ops.size) w := by
    intro fuel listed vals w hsz hf hc hu hg hv hall
    have e : ∀ m, k ≤ m → putS ops a0 (fun i => listed.getD i false) (fun i => (sp i).val (vals i)) m = putS ops a0 (fun _ => true) (fun i => (sp i).val (vals i)) k := by
      intro m hm
      induction m with
      | zero =>
        have : k = 0 := by omega
        subst this; rfl
      | succ m ih =>
        by_cases hkm : k = m + 1
        · subst hkm
          exact putS_congr _ (fun i hi => hall i hi) (fun _ _ _ => rfl)
        · have e1 : putS ops a0 (fun i => listed.getD i false) (fun i => (sp i).val (vals i)) (m + 1) = putS ops a0 (fun i => listed.getD i false) (fun i => (sp i).val (vals i)) m :=
            if_neg (by have := hu m (by omega); simp only [this]; simp)
          rw [e1]
          exact ih (by omega)
    rw [e ops.size hk]
    refine any_tail hB hT fuel k listed _ w (Nat.le_refl _) hk hsz hf hc (fun i _ => ⟨fun h => ?_, fun h => hall i h⟩) (hfin vals w hg fun i hi => hv i (hall i hi))
    rcases Nat.lt_or_ge i k with h1 | h1
    · exact h1
    · rw [hu i h1] at h; cases h
  intro fuel
  induction fuel with
  | zero =>
    intro listed vals w hsz hf hc hu hg hv
    have hall := ready_nil hB hsz (open_zero hf)
    exact hdone 0 listed vals w hsz hf hc hu hg hv fun i hi => hall i (by omega)
  | succ fuel ih =>
    intro listed vals w hsz hf hc hu hg hv
    by_cases hallk : ∀ i, i < k → listed.getD i false = true
    · exact hdone (fuel + 1) listed vals w hsz hf hc hu hg hv hallk
    refine ⟨fun hr => absurd (fun i hi => ready_nil hB hsz hr i (by omega)) hallk, fun j hj => ?_⟩
    have hj' := hj
    rw [mem_ready] at hj'
    obtain ⟨hjl, o, ho, hall⟩ := hj'
    have hjlt : j < ops.size := (Array.getElem?_eq_some_iff.1 ho).1
    have hjS : listed.getD j false = false := by
      have hlt : j < listed.size := by omega
      simpa [hlt] using hjl
    have hdep := ready_deps hB hc hj
    have hjk : j < k := by
      rcases Nat.lt_or_ge j k with h1 | h1
      · exact h1
      · exact absurd (fun i hi => hdep i (tailB_at hT hjlt h1 (by omega))) hallk
    have hsee := sees hB (a := a0) hc (vals := fun i => (sp i).val (vals i)) ho hjS hdep
    have hsel : ∀ cs b, o.op ≠ .select cs b := fun cs b => Region.noSelect_spec (by have := hB; simp only [stabB, Bool.and_eq_true] at this; exact this.1) j o cs b ho
    have hat := hop j o ho hjk vals w hg fun i hi => hv i (hdep i hi)
    unfold Sp.atM at hat
    rw [← wanted_of hsee, ← exec_of hsel hsee, putS_size, ← putS_size ops a0 (fun i => listed.getD i false) (fun i => (sp i).val (vals i)) ops.size] at hat
    -- the step
    have hnext : ∀ v w', Moves ops w0 sp src k j vals w w' → (askd sp src vals j).holds v w' →
        wpAny P .any ops Q fuel (listed.setIfInBounds j true) ((putS ops a0 (fun i => listed.getD i false) (fun i => (sp i).val (vals i)) ops.size).put o.dst v) w' := by
      intro v w' hmv hh
      have hset : ∀ i, (listed.setIfInBounds j true).getD i false = (listed.getD i false || i == j) := by
        intro i
        by_cases hij : j = i
        · subst hij
          have hlt : j < listed.size := by omega
          simp [hlt]
        · rw [getD_set_ne false hij]
          have : (i == j) = false := by simpa using fun e => hij e.symm
          simp [this]
      have h1 := ih (listed.setIfInBounds j true) (fun i => if i == j then v else vals i) w' (by simpa using hsz) (by have := open_set hjlt hjl; omega)
        (closed_set hc hj (by omega))
        (by
          intro i hi
          rw [getD_set_ne false (by omega)]
          exact hu i hi)
        hmv.1
        (by
          intro i hli
          simp only [hset] at hli
          by_cases hij : i = j
          · subst hij
            unfold askd at hh
            by_cases hsi : src i = i
            · rw [if_pos hsi] at hh
              rw [hsi]
              simpa using hh
            · rw [if_neg hsi] at hh
              have hb : (src i == i) = false := by simpa using hsi
              simp only [hb]
              exact hh
          · have hb : (i == j) = false := by simpa using hij
            simp only [hb, Bool.or_false] at hli
            have hb2 : (src i == j) = false := by
              have hik : i < k := by
                rcases Nat.lt_or_ge i k with h1 | h1
                · exact h1
                · rw [hu i h1] at hli; cases hli
              rcases hsrc i hik with h | ⟨h1, h2, _⟩
              · rw [h]; exact hb
              · have h3 := reach_listed hc _ _ _ h2 hli
                cases he : (src i == j) with
                | false => rfl
                | true =>
                  have : src i = j := by simpa using he
                  rw [this] at h3
                  rw [h3] at hjS
                  cases hjS
            simp only [hb2]
            have hik : i < k := by
              rcases Nat.lt_or_ge i k with h1 | h1
              · exact h1
              · rw [hu i h1] at hli; cases hli
            have hnr : reach ops ops.size i j = false := by
              cases hr : reach ops ops.size i j with
              | false => rfl
              | true => rw [reach_listed hc _ _ _ hr hli] at hjS; cases hjS
            exact hmv.2 i hik hij hnr (hv i hli))
      have h2 : putS ops a0 (fun i => (listed.setIfInBounds j true).getD i false) (fun i => (sp i).val (if i == j then v else vals i)) ops.size =
          (putS ops a0 (fun i => listed.getD i false) (fun i => (sp i).val (vals i)) ops.size).put o.dst v := by
        have h3 := putS_put hB (a := a0) (S := fun i => listed.getD i false) (vals := fun i => (sp i).val (vals i)) ho hjS v ops.size (Nat.le_refl _)
        rw [if_pos hjlt] at h3
        rw [← h3]
        refine putS_congr ops.size (fun i _ => hset i) fun i _ _ => ?_
        by_cases hij : i = j
        · subst hij
          have hval : (sp i).val v = v := by
            unfold askd at hh
            rcases hsrc i hjk with h | ⟨h, _, h2⟩
            · rw [if_pos h] at hh
              exact Sp.val_of hh
            · cases hp : sp i with
              | pin c => rw [hp] at h2; cases h2
              | any Φ => rfl
          simp [hval]
        · have hb : (i == j) = false := by simpa using hij
          simp [hb]
      rw [h2] at h1
      exact h1
    unfold wpOp
    simp only [ho]
    split
    · rename_i hw
      rw [if_pos hw] at hat
      exact .inl (uponM_wp hat hnext)
    · rename_i hw
      rw [if_neg hw] at hat
      obtain ⟨h0, u, h1, h2⟩ := hat
      rw [h1 _ rfl]
      exact hnext u w h0 h2

/-! ### The walk in the order of the text -/

/-- What is known of the earlier operations stays known. -/
def Keeps (D : List (World → Prop)) (w w' : World) : Prop := ∀ (i : Nat) (d : World → Prop), D[i]? = some d → d w → d w'

theorem Keeps.nil {w w' : World} : Keeps [] w w' := fun i d h => by simp at h
theorem Keeps.snoc {D : List (World → Prop)} {d : World → Prop} {w w' : World} (h : Keeps D w w') (hd : d w → d w') : Keeps (D ++ [d]) w w' := by
  intro i e hi he
  by_cases h1 : i < D.length
  · rw [List.getElem?_append_left h1] at hi
    exact h i e hi he
  · rw [List.getElem?_append_right (by omega)] at hi
    have h2 : i - D.length = 0 := by
      rcases Nat.eq_zero_or_pos (i - D.length) with h | h
      · exact h
      · rw [List.getElem?_eq_none (by simp; omega)] at hi; cases hi
    rw [h2] at hi
    simp at hi
    subst hi
    exact hd he
theorem Keeps.idle {D : List (World → Prop)} {w w' : World} (h : Keeps D w w') : Keeps (D ++ [Go.Proofs.Ytfnmgkbeeckjnaa.idle]) w w' := h.snoc id

/-- A specification with marks: does the operation write? Of which operation's value does it speak (its own, if none is named)? -/
structure Fs where
  s : Sp
  wr : Bool := false
  tie : Option Nat := none

/-- What is known behind an operation. -/
def Fs.fact (f : Fs) (V : List Value) (v : Value) : World → Prop := match f.tie with
  | none => f.s.fact (f.s.val v)
  | some d => f.s.fact (f.s.val (V.getD d undef))
/-- What is asked of it. -/
def Fs.ask (f : Fs) (V : List Value) : Sp := match f.tie with
  | none => f.s
  | some d => .any fun _ w => f.s.holds (V.getD d undef) w

def Fs.fits (ops : Array Oper) (f : Fs) (k : Nat) : Bool := match f.tie with
  | none => true
  | some d => d != k && reach ops ops.size k d && !f.s.isPin

def wpFlo (P : Program) (ops : Array Oper) (w0 : World) (Q : Exit → Act → World → Prop) : Nat → List Oper → List Fs → List Nat → List Value → List (World → Prop) → Act → Prop
  | 0, l, _, _, _, D, a => ∀ w, Grows w0 w → (∀ (i : Nat) (d : World → Prop), D[i]? = some d → d w) → wpList P ops Q l a w
  | n + 1, o :: l, s :: ss, qs, V, D, a => s.s.stable ∧ s.fits ops D.length = true ∧ (∀ w, Grows w0 w → Deps ops D.length D w → (s.ask V).atM P ops o a w (fun w' => if s.wr then Grows w0 w' ∧ Keeps D w w' else Grows w w')) ∧
      (s.s.isPin = false → qs.all (fun q => reach ops ops.size D.length q) = true) ∧
      ∀ v, wpFlo P ops w0 Q n l ss (if s.wr then D.length :: qs else qs) (V ++ [v]) (D ++ [s.fact V v]) (a.put o.dst (s.s.val v))
  | _, _, _, _, _, _, _ => False

theorem flo_len : ∀ (n : Nat) (l : List Oper) (ss : List Fs) (qs : List Nat) (V : List Value) (D : List (World → Prop)) (a : Act), wpFlo P ops w0 Q n l ss qs V D a → n ≤ l.length ∧ n ≤ ss.length
  | 0, _, _, _, _, _, _, _ => ⟨Nat.zero_le _, Nat.zero_le _⟩
  | _ + 1, [], _, _, _, _, _, h => by simp [wpFlo] at h
  | _ + 1, _ :: _, [], _, _, _, _, h => by simp [wpFlo] at h
  | n + 1, o :: l, s :: ss, qs, V, D, a, h => by
    have := flo_len n l ss _ _ _ _ (h.2.2.2.2 undef)
    simp only [List.length_cons]
    omega

/-- The specification of operation i. -/
def spOf (ss : List Fs) (i : Nat) : Fs := ss.getD i { s := .pin undef }
def srcOf (ss : List Fs) (i : Nat) : Nat := (spOf ss i).tie.getD i
/-- The writes ahead of operation k. -/
def qsOf (ss : List Fs) : Nat → List Nat
  | 0 => []
  | k + 1 => if (spOf ss k).wr then k :: qsOf ss k else qsOf ss k
theorem qsOf_mem {ss : List Fs} {j : Nat} (hj : (spOf ss j).wr = true) : ∀ k, j < k → j ∈ qsOf ss k
  | 0, h => by omega
  | k + 1, h => by
    unfold qsOf
    by_cases hjk : j = k
    · subst hjk; rw [if_pos hj]; simp
    · have := qsOf_mem hj k (by omega)
      split
      · simp [this]
      · exact this
def valsTo (vals : Nat → Value) (k : Nat) : List Value := (List.range k).map vals
theorem valsTo_get {vals : Nat → Value} {k i : Nat} (h : i < k) : (valsTo vals k).getD i undef = vals i := by simp [valsTo, List.getD, h]
def doneF (ss : List Fs) (vals : Nat → Value) (k : Nat) : List (World → Prop) := (List.range k).map fun i => (spOf ss i).fact (valsTo vals i) (vals i)
theorem doneF_succ (ss : List Fs) (vals : Nat → Value) (k : Nat) : doneF ss vals (k + 1) = doneF ss vals k ++ [(spOf ss k).fact (valsTo vals k) (vals k)] := by
  simp [doneF, List.range_succ]
theorem valsTo_succ (vals : Nat → Value) (k : Nat) : valsTo vals (k + 1) = valsTo vals k ++ [vals k] := by
  simp [valsTo, List.range_succ]
theorem doneF_length (ss : List Fs) (vals : Nat → Value) (k : Nat) : (doneF ss vals k).length = k := by simp [doneF]
theorem doneF_get {ss : List Fs} {vals : Nat → Value} {k i : Nat} (h : i < k) : (doneF ss vals k)[i]? = some ((spOf ss i).fact (valsTo vals i) (vals i)) := by
  simp [doneF, h]

theorem flo_at {n : Nat} {ss : List Fs} (h : wpFlo P ops w0 Q n ops.toList ss [] [] [] a0) (vals : Nat → Value) : ∀ k, k ≤ n →
    wpFlo P ops w0 Q (n - k) (ops.toList.drop k) (ss.drop k) (qsOf ss k) (valsTo vals k) (doneF ss vals k) (putS ops a0 (fun _ => true) (fun i => (spOf ss i).s.val (vals i)) k)
  | 0, _ => by simpa [doneF, valsTo, putS, qsOf] using h
  | k + 1, hk => by
    have ih := flo_at h vals k (by omega)
    obtain ⟨hl1, hl2⟩ := flo_len _ _ _ _ _ _ _ h
    have hk1 : k < ops.toList.length := by omega
    have hk2 : k < ss.length := by omega
    have e0 : n - k = (n - (k + 1)) + 1 := by omega
    rw [List.drop_eq_getElem_cons hk1, List.drop_eq_getElem_cons hk2, e0] at ih
    have h1 := ih.2.2.2.2 (vals k)
    have e1 : spOf ss k = ss[k] := by simp [spOf, hk2]
    rw [doneF_succ, valsTo_succ, e1]
    unfold putS qsOf
    simp only [if_true]
    have e2 : ops[k]? = some (ops.toList[k]) := by simp [Array.getElem?_eq_getElem (by simpa using hk1 : k < ops.size)]
    rw [e2, e1]
    rw [doneF_length] at h1
    exact h1

/-- What stands at one operation. -/
theorem flo_here {n : Nat} {ss : List Fs} (h : wpFlo P ops w0 Q n ops.toList ss [] [] [] a0) (vals : Nat → Value) {j : Nat} (hj : j < n) {o : Oper} (ho : ops[j]? = some o) :
    (spOf ss j).s.stable ∧ (spOf ss j).fits ops j = true ∧ (∀ w, Grows w0 w → Deps ops j (doneF ss vals j) w → ((spOf ss j).ask (valsTo vals j)).atM P ops o (putS ops a0 (fun _ => true) (fun i => (spOf ss i).s.val (vals i)) j) w (fun w' => if (spOf ss j).wr then Grows w0 w' ∧ Keeps (doneF ss vals j) w w' else Grows w w')) ∧
      ((spOf ss j).s.isPin = false → (qsOf ss j).all (fun q => reach ops ops.size j q) = true) := by
  have h1 := flo_at h vals j (by omega)
  obtain ⟨hl1, hl2⟩ := flo_len _ _ _ _ _ _ _ h
  have hjlt : j < ops.size := (Array.getElem?_eq_some_iff.1 ho).1
  have hk1 : j < ops.toList.length := by simpa using hjlt
  have hk2 : j < ss.length := by omega
  have e0 : n - j = (n - (j + 1)) + 1 := by omega
  rw [List.drop_eq_getElem_cons hk1, List.drop_eq_getElem_cons hk2, e0] at h1
  have e1 : spOf ss j = ss[j] := by simp [spOf, hk2]
  have e2 : ops.toList[j] = o := by
    have := Array.getElem?_eq_some_iff.1 ho
    simpa using this.2
  have h0 := h1.2.1
  have h2 := h1.2.2.1
  have h3 := h1.2.2.2.1
  rw [doneF_length] at h0 h2 h3
  rw [e2] at h2
  rw [e1]
  exact ⟨h1.1, h0, h2, h3⟩

theorem fits_src {ss : List Fs} {j : Nat} (h : (spOf ss j).fits ops j = true) : srcOf ss j = j ∨ (srcOf ss j ≠ j ∧ reach ops ops.size j (srcOf ss j) = true ∧ (spOf ss j).s.isPin = false) := by
  unfold Fs.fits at h
  unfold srcOf
  cases ht : (spOf ss j).tie with
  | none => left; rfl
  | some d =>
    rw [ht] at h
    simp only [Bool.and_eq_true, bne_iff_ne, ne_eq, Bool.not_eq_true'] at h
    right
    exact ⟨h.1.1, h.1.2, h.2⟩

theorem reach_lt (hB : stabB ops = true) {i j : Nat} (h : reach ops ops.size i j = true) (hi : i < ops.size) : j < i := by
  have hc : closed ops (fun k => Nat.ble k i && (k == i || Nat.blt k i)) := by
    intro k o hko hk e he hb
    have := (stabB_self hB hko).2 e he hb
    simp only [Bool.and_eq_true, Nat.ble_eq, Bool.or_eq_true, beq_iff_eq, Nat.blt_eq] at hk ⊢
    omega
  have h1 := reach_listed hc _ _ _ h (by simp)
  simp only [Bool.and_eq_true, Nat.ble_eq, Bool.or_eq_true, beq_iff_eq, Nat.blt_eq] at h1
  rcases h1.2 with rfl | h2
  · have := (stabB_self hB (Array.getElem?_eq_getElem hi)).1
    rw [this] at h
    cases h
  · exact h2

/-- The fact behind an operation is what holds of it. -/
theorem fact_holds (hB : stabB ops = true) {ss : List Fs} {vals : Nat → Value} {i : Nat} (hi : i < ops.size) (hf : (spOf ss i).fits ops i = true) {w : World} (h : (spOf ss i).s.holds (vals (srcOf ss i)) w) : (spOf ss i).fact (valsTo vals i) (vals i) w := by
  unfold Fs.fact
  unfold Fs.fits at hf
  unfold srcOf at h
  cases ht : (spOf ss i).tie with
  | none => rw [ht] at h; exact Sp.fact_of h
  | some d =>
    rw [ht] at h hf
    simp only [Bool.and_eq_true, bne_iff_ne, ne_eq, Bool.not_eq_true'] at hf
    have hd := reach_lt hB hf.1.2 hi
    simp only
    rw [valsTo_get hd]
    exact Sp.fact_of h
theorem holds_fact (hB : stabB ops = true) {ss : List Fs} {vals : Nat → Value} {i : Nat} (hi : i < ops.size) (hf : (spOf ss i).fits ops i = true) {w : World} {Φ : Value → World → Prop} (hs : (spOf ss i).s = .any Φ) : (spOf ss i).fact (valsTo vals i) (vals i) w ↔ (spOf ss i).s.holds (vals (srcOf ss i)) w := by
  refine ⟨fun h => ?_, fact_holds hB hi hf⟩
  unfold Fs.fact at h
  unfold Fs.fits at hf
  unfold srcOf
  cases ht : (spOf ss i).tie with
  | none => rw [ht] at h; rw [hs] at h ⊢; exact h
  | some d =>
    rw [ht] at h hf
    simp only [Bool.and_eq_true, bne_iff_ne, ne_eq, Bool.not_eq_true'] at hf
    have hd := reach_lt hB hf.1.2 hi
    simp only at h
    rw [valsTo_get hd, hs] at h
    rw [hs]
    exact h

theorem wp_region_flo {id : Nat} {a : Act} {w : World} {ss : List Fs} (n : Nat) (hm : P.follows .mixedOrders = true) (hB : stabB ops = true) (hT : tailB ops n = true)
    (h : wpFlo P ops w.drew Q n ops.toList ss [] [] [] a) : (Code.region id ops true).wp P Q a w := by
  obtain ⟨hl1, hl2⟩ := flo_len _ _ _ _ _ _ _ h
  have hn : n ≤ ops.size := by simpa using hl1
  refine wp_region_any hm ?_
  have hst : ∀ i, i < n → (spOf ss i).s.stable := fun i hi => (flo_here h (fun _ => undef) hi (Array.getElem?_eq_getElem (by omega))).1
  have hft : ∀ i, i < n → (spOf ss i).fits ops i = true := fun i hi => (flo_here h (fun _ => undef) hi (Array.getElem?_eq_getElem (by omega))).2.1
  have h0 := any_flo (P := P) (ops := ops) (Q := Q) (a0 := a) (w0 := w.drew) (sp := fun i => (spOf ss i).s) (src := srcOf ss) hn hB hT
    (fun i hi => fits_src (hft i hi))
    (fun j o ho hjn vals w' hg hd => by
      have hjs : j < ops.size := (Array.getElem?_eq_some_iff.1 ho).1
      obtain ⟨_, hfj, h2, _⟩ := flo_here h vals hjn ho
      have hask : askd (fun i => (spOf ss i).s) (srcOf ss) vals j = (spOf ss j).ask (valsTo vals j) := by
        unfold askd Fs.ask srcOf
        unfold Fs.fits at hfj
        cases ht : (spOf ss j).tie with
        | none => simp
        | some d =>
          rw [ht] at hfj
          simp only [Bool.and_eq_true, bne_iff_ne, ne_eq, Bool.not_eq_true'] at hfj
          have hdl := reach_lt hB hfj.1.2 hjs
          simp only [Option.getD_some]
          rw [if_neg hfj.1.1, valsTo_get hdl]
      rw [hask]
      refine Sp.atM_mono (h2 w' hg ?_) fun w'' hw => ?_
      · intro i d hi hr
        have hil : i < j := by
          have := (List.getElem?_eq_some_iff.1 hi).1
          rwa [doneF_length] at this
        rw [doneF_get hil] at hi
        cases hi
        exact fact_holds hB (by omega) (hft i (by omega)) (hd i hr)
      · by_cases hwr : (spOf ss j).wr = true
        · rw [if_pos hwr] at hw
          refine ⟨hw.1, fun i hik hij hnr hh => ?_⟩
          show (spOf ss i).s.holds (vals (srcOf ss i)) w''
          have hh : (spOf ss i).s.holds (vals (srcOf ss i)) w' := hh
          cases hs : (spOf ss i).s with
          | pin c => rw [hs] at hh; exact hh
          | any Φ =>
            rcases Nat.lt_or_ge i j with hlt | hge
            · have h4 := hw.2 i _ (doneF_get hlt)
              rw [holds_fact hB (by omega) (hft i hik) hs, holds_fact hB (by omega) (hft i hik) hs] at h4
              rw [← hs]
              exact h4 hh
            · have h4 := (flo_here h vals hik (Array.getElem?_eq_getElem (by omega))).2.2.2 (by rw [hs]; rfl)
              rw [List.all_eq_true] at h4
              have := h4 j (qsOf_mem hwr i (by omega))
              rw [hnr] at this
              cases this
        · rw [if_neg hwr] at hw
          exact ⟨Grows.step hg hw, fun i hik _ _ hh => Sp.keep (hst i hik) hw hh⟩)
    (fun vals w' hg hv => by
      have h1 := flo_at h vals n (Nat.le_refl _)
      rw [Nat.sub_self] at h1
      exact h1 w' hg (by
        intro i d hi
        have hil : i < n := by
          have := (List.getElem?_eq_some_iff.1 hi).1
          rwa [doneF_length] at this
        rw [doneF_get hil] at hi
        cases hi
        exact fact_holds hB (by omega) (hft i hil) (hv i hil)))
    ops.size (Array.replicate ops.size false) (fun _ => undef) w.drew (by simp)
    (by unfold open_; exact Nat.le_trans (List.length_filter_le _ _) (by simp))
    (by intro i o ho hl; have h1 := rep_false ops.size i; simp only [h1] at hl; cases hl)
    (fun i _ => rep_false _ _)
    (Grows.rfl' _) (by intro i hl; rw [rep_false] at hl; cases hl)
  have e : ∀ vv : Nat → Value, putS ops a (fun i => (Array.replicate ops.size false).getD i false) vv ops.size = a := by
    intro vv
    have : ∀ k, putS ops a (fun i => (Array.replicate ops.size false).getD i false) vv k = a := by
      intro k
      induction k with
      | zero => rfl
      | succ k ih => unfold putS; rw [if_neg (by rw [rep_false]; simp), ih]
    exact this _
  rw [e] at h0
  exact h0

theorem wp_region_flo_lit {id : Nat} {a : Act} {w : World} {l : List Oper} {ss : List Fs} (n : Nat) (hm : P.follows .mixedOrders = true) (hB : (stabB l.toArray && tailB l.toArray n) = true)
    (h : wpFlo P l.toArray w.drew Q n l ss [] [] [] a) : (Code.region id l.toArray true).wp P Q a w := by
  rw [Bool.and_eq_true] at hB
  exact wp_region_flo n hm hB.1 hB.2 (by simpa using h)

/-! ### One step -/
theorem Sp.atM_of_at {o : Oper} {a : Act} {w : World} {s : Sp} {D : List (World → Prop)} (h : ∀ K : Act → World → Prop, (∀ v w', Grows w w' → s.holds v w' → K (a.put o.dst v) w') → wpList P ops (KPost K) [o] a w) :
    s.atM P ops o a w (fun w' => if (false : Bool) then Grows w0 w' ∧ Keeps D w w' else Grows w w') :=
  atM_of_wp fun K hK => h K fun v w' hg hh => hK v w' (by simpa using hg) hh

section
variable {n : Nat} {o : Oper} {l : List Oper} {ss : List Fs} {qs : List Nat} {V : List Value} {D : List (World → Prop)} {a : Act}
theorem flo_pin (a' : Act)
    (h : ∀ w, Grows w0 w → Deps ops D.length D w → ∀ K : Act → World → Prop, (∀ w', Grows w w' → K a' w') → wpList P ops (KPost K) [o] a w)
    (ha : a.put o.dst (slotOf o a') = a')
    (hr : ∀ v, wpFlo P ops w0 Q n l ss qs (V ++ [v]) (D ++ [idle]) a') : wpFlo P ops w0 Q (n + 1) (o :: l) ({ s := .pin (slotOf o a') } :: ss) qs V D a :=
  ⟨trivial, rfl, fun w hg hd => Sp.atM_of_at fun K hK => h w hg hd K fun w' hg' => by have := hK (slotOf o a') w' hg' rfl; rw [ha] at this; exact this, (fun h => absurd h (by simp [Sp.isPin])), fun v => by
    show wpFlo P ops w0 Q n l ss qs (V ++ [v]) (D ++ [idle]) (a.put o.dst (slotOf o a'))
    rw [ha]; exact hr v⟩

theorem flo_any (Φ : Value → World → Prop) (hs : ∀ v w w', Grows w w' → Φ v w → Φ v w')
    (h : ∀ w, Grows w0 w → Deps ops D.length D w → ∀ K : Act → World → Prop, (∀ v w', Grows w w' → Φ v w' → K (a.put o.dst v) w') → wpList P ops (KPost K) [o] a w)
    (hq : qs.all (fun q => reach ops ops.size D.length q) = true)
    (hr : ∀ v, wpFlo P ops w0 Q n l ss qs (V ++ [v]) (D ++ [Φ v]) (a.put o.dst v)) : wpFlo P ops w0 Q (n + 1) (o :: l) ({ s := .any Φ } :: ss) qs V D a :=
  ⟨hs, rfl, fun w hg hd => Sp.atM_of_at fun K hK => h w hg hd K fun v w' hg' hh => hK v w' hg' hh, fun _ => hq, fun v => hr v⟩

theorem flo_pinv (c : Value)
    (h : ∀ w, Grows w0 w → Deps ops D.length D w → ∀ K : Act → World → Prop, (∀ w', Grows w w' → K (a.put o.dst c) w') → wpList P ops (KPost K) [o] a w)
    (hr : ∀ v, wpFlo P ops w0 Q n l ss qs (V ++ [v]) (D ++ [idle]) (a.put o.dst c)) : wpFlo P ops w0 Q (n + 1) (o :: l) ({ s := .pin c } :: ss) qs V D a :=
  ⟨trivial, rfl, fun w hg hd => Sp.atM_of_at fun K hK => h w hg hd K fun w' hg' => hK c w' hg' rfl, (fun h => absurd h (by simp [Sp.isPin])), fun v => hr v⟩

/-- A write into memory that the region has made (its box is the value x of operation number d): what is known of the earlier operations is kept, and Ψ x is known behind it. -/
theorem flo_put (d : Nat) (x : Value) (Ψ : Value → World → Prop) (hs : ∀ v w w', Grows w w' → Ψ v w → Ψ v w') (hn : o.dst = none) (hx : V.getD d undef = x)
    (hf : (d != D.length && reach ops ops.size D.length d) = true)
    (h : ∀ w, Grows w0 w → Deps ops D.length D w → ∀ K : Act → World → Prop, (∀ w', Grows w0 w' → Keeps D w w' → Ψ x w' → K a w') → wpList P ops (KPost K) [o] a w)
    (hq : qs.all (fun q => reach ops ops.size D.length q) = true)
    (hr : ∀ v, wpFlo P ops w0 Q n l ss (D.length :: qs) (V ++ [v]) (D ++ [Ψ x]) a) : wpFlo P ops w0 Q (n + 1) (o :: l) ({ s := .any Ψ, wr := true, tie := some d } :: ss) qs V D a := by
  refine ⟨hs, ?_, fun w hg hd => atM_of_wp fun K hK => h w hg hd K fun w' h1 h2 h3 => ?_, fun _ => hq, fun v => ?_⟩
  · show (d != D.length && reach ops ops.size D.length d && true) = true
    rw [hf]; rfl
  · have := hK undef w' (by simpa using ⟨h1, h2⟩) (by show Ψ (V.getD d undef) w'; rw [hx]; exact h3)
    rwa [hn] at this
  · have e : ({ s := .any Ψ, wr := true, tie := some d } : Fs).fact V v = Ψ x := by
      show Ψ (V.getD d undef) = Ψ x
      rw [hx]
    rw [e, hn]
    exact hr v
end

theorem flo_end {l : List Oper} {qs : List Nat} {V : List Value} {D : List (World → Prop)} {a : Act} (h : ∀ w, Grows w0 w → (∀ (i : Nat) (d : World → Prop), D[i]? = some d → d w) → wpList P ops Q l a w) : wpFlo P ops w0 Q 0 l [] qs V D a := h
end Go.Proofs.Ytfnmgkbeeckjnaa

/- A region that draws its order: its first operations in the order of the text (each yields its value in every world that meets S), then some that must come one by one and keep S, then a tail that waits for all of them and need not keep S. -/
import Derived.OrdersHeld
import Derived.StillTail
set_option linter.unusedSimpArgs false
set_option linter.unusedVariables false
namespace Go.Proofs.YtjjmgnllhihoeaaGreatFmt

section
variable {P : Program} {ops : Array Oper} {md : Region.Mode} {Q : Exit → Act → World → Prop} {S : World → Prop}

/-- Whatever order is picked among the first k: S holds behind each, and L behind the last. -/
def wpTo (P : Program) (md : Region.Mode) (ops : Array Oper) (Q : Exit → Act → World → Prop) (S : World → Prop) (k : Nat) (L : Array Bool → Act → World → Prop) : Nat → Array Bool → Act → World → Prop
  | 0, listed, a, w => L listed a w
  | f + 1, listed, a, w =>
    Region.ready md ops listed ≠ [] ∧ ∀ i ∈ Region.ready md ops listed, i < k ∧ wpOp P ops Q i (fun a' w' => S w' ∧ wpTo P md ops Q S k L f (listed.setIfInBounds i true) a' w') a w

theorem wpAny_of_to {k g : Nat} {L : Array Bool → Act → World → Prop} (hL : ∀ listed a w, L listed a w → wpAny P md ops Q g listed a w) :
    ∀ (f : Nat) (listed : Array Bool) (a : Act) (w : World), wpTo P md ops Q S k L f listed a w → wpAny P md ops Q (f + g) listed a w
  | 0, listed, a, w, h => by rw [Nat.zero_add]; exact hL _ _ _ h
  | f + 1, listed, a, w, h => by
    rw [show f + 1 + g = (f + g) + 1 by omega]
    exact ⟨fun h0 => absurd h0 h.1, fun i hi => wpOp_mono (fun a' w' h' => wpAny_of_to hL f _ a' w' h'.2) (h.2 i hi).2⟩

theorem wpTo_first {k i : Nat} {oi : Oper} {v : Value} {L : Array Bool → Act → World → Prop} (hi : ops[i]? = some oi) (hsel : ∀ (j : Nat) (o : Oper) cs b, ops[j]? = some o → o.op ≠ .select cs b)
    (hQ : ∀ c a w, Q (.panic c) (a.put oi.dst v) w → Q (.panic c) a w)
    (hs : Region.sinkB md ops k = true) (hc : Region.chainB md ops k = true) (hn : k < ops.size) (hin : i < k)
    (hdone : ∀ listed a w, L listed a w → ∀ j ∈ Region.ready md ops listed, k ≤ j) :
    ∀ (f : Nat) (listed : Array Bool) (a : Act) (w : World), HeadInv md ops k listed →
      (∀ j oj, ops[j]? = some oj → j ≠ i → listed.getD j true = false → (∀ e ∈ oj.after, Region.binds md e = true → e.on ≠ i) → oi.apart ops oj = true) →
      i ∈ Region.ready md ops listed → YieldsIf P ops S oi v a → S w →
      wpTo P md ops Q S k L f (listed.setIfInBounds i true) (a.put oi.dst v) w → wpTo P md ops Q S k L (f + 1) listed a w := by
  intro f
  induction f with
  | zero =>
    intro listed a w inv _ hr hy hS H
    have hun := (mem_ready.1 hr).1
    refine ⟨fun h => (by rw [h] at hr; cases hr), fun j hj => ?_⟩
    have hjn : j < k := by
      rcases Nat.lt_or_ge j k with h | h
      · exact h
      · exact absurd hj (tail_waits hs hc hn inv _ i rfl hin hun j h)
    refine ⟨hjn, ?_⟩
    by_cases hji : j = i
    · subst hji; exact hy.wpOp hi hS ⟨hS, H⟩
    · have := hdone _ _ _ H j (ready_mono hj hji)
      omega
  | succ f ih =>
    intro listed a w inv hfree hr hy hS H
    have hun := (mem_ready.1 hr).1
    refine ⟨fun h => (by rw [h] at hr; cases hr), fun j hj => ?_⟩
    have hjn : j < k := by
      rcases Nat.lt_or_ge j k with h | h
      · exact h
      · exact absurd hj (tail_waits hs hc hn inv _ i rfl hin hun j h)
    refine ⟨hjn, ?_⟩
    by_cases hji : j = i
    · subst hji; exact hy.wpOp hi hS ⟨hS, H⟩
    · have h1 := (H.2 j (ready_mono hj hji)).2
      obtain ⟨hjun, oj, hoj, hall⟩ := mem_ready.1 hj
      have hnot : ∀ e ∈ oj.after, Region.binds md e = true → e.on ≠ i := fun e he hb heq => by
        have h1 := hall e he hb
        rw [heq, getD_both hun] at h1
        cases h1
      have h2 := wpOp_putIf hoj (hfree j oj hoj hji hjun hnot) (fun cs b => hsel i oi cs b hi) (fun cs b => hsel j oj cs b hoj) hQ hy h1
      have hfree' : ∀ k' ok, ops[k']? = some ok → k' ≠ i → (listed.setIfInBounds j true).getD k' true = false →
          (∀ e ∈ ok.after, Region.binds md e = true → e.on ≠ i) → oi.apart ops ok = true := fun k' ok hk hki hun hno => by
        refine hfree k' ok hk hki ?_ hno
        by_cases hjk : j = k'
        · subst hjk; exact hjun
        · rw [getD_set_ne true hjk] at hun; exact hun
      refine wpOp_mono (fun a' w' h3 => ⟨h3.2.1, ih (listed.setIfInBounds j true) a' w' (inv.set hj hjn) hfree' (ready_mono hr (Ne.symm hji)) h3.1 h3.2.1 ?_⟩) h2
      rw [Array.setIfInBounds_comm _ _ hji]
      exact h3.2.2

/-- The operations that are taken first, one by one. -/
def wpHeld (P : Program) (ops : Array Oper) (S : World → Prop) (L : Act → Prop) : List Oper → Act → Prop
  | [], a => L a
  | o :: l, a => ∃ v, YieldsIf P ops S o v a ∧ wpHeld P ops S L l (a.put o.dst v)

/-- Those that come one by one and keep S. -/
def wpMid (P : Program) (ops : Array Oper) (Q : Exit → Act → World → Prop) (S : World → Prop) (L : Act → World → Prop) : List Oper → Act → World → Prop
  | [], a, w => L a w
  | o :: rest, a, w =>
    if Region.wanted o (yielded ops a.tmps) then o.wp P a w (fun a' w' => S w' ∧ wpMid P ops Q S L rest a' w') Q ∨ (o.asks P a w ∧ LetsOut Q) else S w ∧ wpMid P ops Q S L rest (a.put o.dst undef) w

/-- The orders are forced from number k' on, for g operations. -/
theorem wpTo_of_mid {k g : Nat} {L : Act → World → Prop} : ∀ (l : List Oper) (j : Nat) (listed : Array Bool) (a : Act) (w : World), (∀ i, i < l.length → l[i]? = ops[j + i]?) → j + l.length = k →
    Region.seqB md ops (l.length + g) j listed = true → wpMid P ops Q S L l a w → wpTo P md ops Q S k (fun listed' a' w' => Region.seqB md ops g k listed' = true ∧ L a' w') l.length listed a w
  | [], j, _, _, _, _, hk, hB, h => by
    have : j = k := by simpa using hk
    subst this
    exact ⟨by simpa using hB, h⟩
  | o :: l, j, listed, a, w, hl, hk, hB, h => by
    have h0 : ops[j]? = some o := by simpa using (hl 0 (by simp)).symm
    rw [show (o :: l).length + g = (l.length + g) + 1 by simp; omega] at hB
    simp only [Region.seqB, Bool.and_eq_true, decide_eq_true_eq] at hB
    refine ⟨fun h1 => (by rw [hB.1] at h1; cases h1), fun i hi => ?_⟩
    rw [hB.1] at hi
    have hik : i = j := by simpa using hi
    subst hik
    refine ⟨by simp only [List.length_cons] at hk; omega, ?_⟩
    have hw : wpOp P ops Q i (fun a' w' => S w' ∧ wpMid P ops Q S L l a' w') a w := by unfold wpOp; simp only [h0]; exact h
    exact wpOp_mono (fun a' w' h' => ⟨h'.1, wpTo_of_mid l (i + 1) _ a' w' (fun j hj => by have := hl (j + 1) (by simp; omega); simpa [Nat.add_assoc, Nat.add_comm 1 j] using this) (by simp only [List.length_cons] at hk; omega) hB.2 h'.2⟩) hw

/-- The Bool that the kernel reckons: the first n in the text's order, then all forced; and k waits for all before it. -/
def heldB (ops : Array Oper) (n k : Nat) : Bool :=
  Region.noSelect ops && decide (n ≤ k) && decide (k < ops.size) && Region.sinkB .any ops k && Region.chainB .any ops k && Region.lexHead .any ops (ops.size - n) n 0 (Array.replicate ops.size false)

theorem wpTo_lex {n k g : Nat} {L : Array Bool → Act → World → Prop} {Lq : Act → Prop} {w : World} (hsel : Region.noSelect ops = true) (hs : Region.sinkB md ops k = true) (hc : Region.chainB md ops k = true) (hk : k < ops.size) (hnk : n ≤ k)
    (hQ : ∀ c a d v w, Q (.panic c) (Act.put a d v) w → Q (.panic c) a w) (hS : S w) (m : Nat)
    (hdone : ∀ listed a w, L listed a w → ∀ j ∈ Region.ready md ops listed, k ≤ j)
    (hL : ∀ listed a, Region.seqB md ops g n listed = true → Lq a → wpTo P md ops Q S k L m listed a w) :
    ∀ (l : List Oper) (j : Nat) (listed : Array Bool) (a : Act), (∀ i, i < l.length → l[i]? = ops[j + i]?) → j + l.length = n → HeadInv md ops k listed →
    Region.lexHead md ops g l.length j listed = true → wpHeld P ops S Lq l a → wpTo P md ops Q S k L (l.length + m) listed a w
  | [], j, listed, a, _, hj, inv, hB, h => by
    have : j = n := by simpa using hj
    subst this
    rw [show ([] : List Oper).length + m = m by simp]
    exact hL _ _ (by simpa [Region.lexHead] using hB) h
  | o :: l, j, listed, a, hl, hj, inv, hB, h => by
    have h0 : ops[j]? = some o := by simpa using (hl 0 (by simp)).symm
    simp only [List.length_cons, Region.lexHead, Bool.and_eq_true] at hB
    obtain ⟨⟨hr, hf⟩, hB'⟩ := hB
    have hjk : j < k := by simp only [List.length_cons] at hj; omega
    have hr' : j ∈ Region.ready md ops listed := by simpa using hr
    obtain ⟨v, hy, hK⟩ := h
    rw [show (o :: l).length + m = (l.length + m) + 1 by simp; omega]
    exact wpTo_first h0 (Region.noSelect_spec hsel) (fun c a w => hQ c a _ _ w) hs hc hk hjk hdone (l.length + m) listed a w inv (Region.free_spec h0 hf) hr' hy hS
      (wpTo_lex hsel hs hc hk hnk hQ hS m hdone hL l (j + 1) _ _ (fun i hi => by have := hl (i + 1) (by simp; omega); simpa [Nat.add_assoc, Nat.add_comm 1 i] using this) (by simp only [List.length_cons] at hj; omega) (inv.set hr' hjk) hB' hK)

/-- The whole region. -/
theorem wp_region_held_tail {id : Nat} {a : Act} {w : World} {l : List Oper} (n k : Nat) (S : World → Prop) (hm : P.follows .mixedOrders = true) (hB : heldB l.toArray n k = true)
    (hQ : ∀ c a d v w, Q (.panic c) (Act.put a d v) w → Q (.panic c) a w) (hS : S w.drew)
    (h : wpHeld P l.toArray S (fun a' => wpMid P l.toArray Q S (wpList P l.toArray Q (l.drop k)) ((l.drop n).take (k - n)) a' w.drew) (l.take n) a) : (Code.region id l.toArray true).wp P Q a w := by
  simp only [heldB, Bool.and_eq_true, decide_eq_true_eq] at hB
  obtain ⟨⟨⟨⟨⟨hsel, hnk⟩, hk⟩, hs⟩, hc⟩, hlex⟩ := hB
  have hk' : k < l.length := by simpa using hk
  have htl : (l.take n).length = n := by simp; omega
  have hml : ((l.drop n).take (k - n)).length = k - n := by simp; omega
  have hdl : (l.drop k).length = l.length - k := by simp
  have hsz : l.toArray.size = l.length := by simp
  have inv0 : HeadInv .any l.toArray k (Array.replicate l.toArray.size false) :=
    ⟨by simp, fun j oj _ hl => (by rw [getD_replicate_false] at hl; cases hl), fun t _ ht => getD_in (by simpa using ht) (getD_replicate_false _ _)⟩
  have H := wpTo_lex (P := P) (Q := Q) (S := S) (md := .any) (w := w.drew) (n := n) (k := k) (g := l.toArray.size - n) (L := fun listed' a' w' => Region.seqB .any l.toArray (l.length - k) k listed' = true ∧ wpList P l.toArray Q (l.drop k) a' w')
    hsel hs hc hk hnk hQ hS (k - n) (fun _ _ _ hL => seqB_ready hL.1)
    (fun listed a' hB' hL' => by
      have := wpTo_of_mid (P := P) (Q := Q) (S := S) (md := .any) (ops := l.toArray) (k := k) (g := l.length - k) ((l.drop n).take (k - n)) n listed a' w.drew (fun i hi => by rw [hml] at hi; simp [List.getElem?_take, List.getElem?_drop, hi]) (by rw [hml]; omega) (by rw [hml, show k - n + (l.length - k) = l.toArray.size - n by rw [hsz]; omega]; exact hB') hL'
      rw [hml] at this
      exact this)
    (l.take n) 0 _ a (fun j hj => by
      have hj' : j < n := by rw [htl] at hj; exact hj
      simp [hj']) (by simpa using htl) inv0 (by rw [htl]; exact hlex) h
  refine wp_region_any hm ?_
  have := wpAny_of_to (g := l.length - k) (fun listed a' w' hL => by
    have := wpAny_of_seq (md := .any) (Q' := Q) (l.drop k) k listed a' w' (fun j => by simp [List.getElem?_drop]) (by rw [hdl]; exact hL.1) hL.2
    rwa [hdl] at this) _ _ _ _ H
  rw [htl, show n + (k - n) + (l.length - k) = l.toArray.size by rw [hsz]; omega] at this
  exact this

/-! ### The moves -/
theorem wpHeld_cons {L : Act → Prop} {o : Oper} {l : List Oper} {a : Act} (v : Value) (hw : Region.wanted o (yielded ops a.tmps) = true) (hv : ∀ w, S w → (execOp a.eval o).run P w = .ok (.value v) w) (h : wpHeld P ops S L l (a.put o.dst v)) : wpHeld P ops S L (o :: l) a :=
  ⟨v, .inl ⟨hw, hv⟩, h⟩
theorem wpHeld_nil {L : Act → Prop} {a : Act} (h : L a) : wpHeld P ops S L [] a := h
theorem wpMid_nil {L : Act → World → Prop} {a : Act} {w : World} (h : L a w) : wpMid P ops Q S L [] a w := h
theorem wpMid_cons {L : Act → World → Prop} {o : Oper} {l : List Oper} {a : Act} {w : World}
    (h : ∀ K : Act → World → Prop, (∀ a' w', S w' → wpMid P ops Q S L l a' w' → K a' w') → if Region.wanted o (yielded ops a.tmps) then o.wp P a w K Q else K (a.put o.dst undef) w) : wpMid P ops Q S L (o :: l) a w := by
  have h' := h (fun a' w' => S w' ∧ wpMid P ops Q S L l a' w') (fun _ _ h1 h2 => ⟨h1, h2⟩)
  show if Region.wanted o (yielded ops a.tmps) then _ else _
  split
  · rename_i hw; rw [if_pos hw] at h'; exact .inl h'
  · rename_i hw; rw [if_neg hw] at h'; exact h'
end
end Go.Proofs.YtjjmgnllhihoeaaGreatFmt

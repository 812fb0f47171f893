/- Plain Lean, no program in sight: what stands at a place of a text that one piece of it (a blank, a comment, a token) takes; that a text which is cut into such pieces stays so cut ahead of a newline and behind other text. -/
import Derived.Lib.TrimUEq
import Derived.Laws.RangeAny
import Derived.Lib.Hide
set_option linter.unusedSimpArgs false
set_option linter.unusedVariables false
namespace Go.Proofs.YtjjmgnllhihoeaaGreatFmt
open Go

/-- The byte at a place; 256 behind the end. -/
def ch (s : ByteArray) (i : Nat) : Nat := if h : i < s.size then s[i].toNat else 256

def Ws (c : Nat) : Prop := c = 32 ∨ c = 9 ∨ c = 10 ∨ c = 13
def Lt (c : Nat) : Prop := c = 95 ∨ (97 ≤ c ∧ c ≤ 122) ∨ (65 ≤ c ∧ c ≤ 90)
def Dg (c : Nat) : Prop := 48 ≤ c ∧ c ≤ 57
def Bl (c : Nat) : Prop := c = 32 ∨ c = 9
def Pn (c : Nat) : Prop := c = 123 ∨ c = 125 ∨ c = 91 ∨ c = 93 ∨ c = 40 ∨ c = 41 ∨ c = 44 ∨ c = 46 ∨ c = 59
def Op (c : Nat) : Prop := c = 33 ∨ c = 36 ∨ c = 58 ∨ c = 126 ∨ c = 43 ∨ c = 45 ∨ c = 38 ∨ c = 124 ∨ c = 94 ∨ c = 61 ∨ c = 60 ∨ c = 62 ∨ c = 42 ∨ c = 47 ∨ c = 37
def Tr (c : Nat) : Prop := c = 43 ∨ c = 45 ∨ c = 126 ∨ c = 33 ∨ c = 36

/-- A string between quotes, from k on, ends at j. -/
inductive Quot (c : Nat → Nat) (q : Nat) : Nat → Nat → Prop
  | fin (k : Nat) : c k = q → Quot c q k (k + 1)
  | esc (k j : Nat) : c k ≠ q → c k = 92 → Quot c q (k + 2) j → Quot c q k j
  | step (k j : Nat) : c k ≠ q → c k ≠ 92 → c k ≠ 256 → Quot c q (k + 1) j → Quot c q k j

/-- A string in which two quotes stand for one. -/
inductive Verb (c : Nat → Nat) (q : Nat) : Nat → Nat → Prop
  | fin (k : Nat) : c k = q → c (k + 1) ≠ q → Verb c q k (k + 1)
  | dbl (k j : Nat) : c k = q → c (k + 1) = q → Verb c q (k + 2) j → Verb c q k j
  | step (k j : Nat) : c k ≠ q → c k ≠ 256 → Verb c q (k + 1) j → Verb c q k j

/-- Do the n bytes at k read as those at a? -/
def Pre (c : Nat → Nat) (a n k : Nat) : Prop := ∀ m, m < n → c (k + m) = c (a + m)

/-- The lines of a block of text whose indent is the n bytes at a, from k on, end at j. -/
inductive Blk (c : Nat → Nat) (a n : Nat) : Nat → Nat → Prop
  | nl (k j : Nat) : c k = 10 → Blk c a n (k + 1) j → Blk c a n k j
  | line (k e j : Nat) : c k ≠ 10 → Pre c a n k → k + n ≤ e → (∀ m, k + n ≤ m → m < e → c m ≠ 10 ∧ c m ≠ 256) → c e = 10 → Blk c a n (e + 1) j → Blk c a n k j
  | fin (k e : Nat) : c k ≠ 10 → ¬ Pre c a n k → k ≤ e → (∀ m, k ≤ m → m < e → Bl (c m)) → c e = 124 → c (e + 1) = 124 → c (e + 2) = 124 → Blk c a n k (e + 3)

def Digs (c : Nat → Nat) (a b : Nat) : Prop := ∀ k, a ≤ k → k < b → Dg (c k)
def EndN (c : Nat → Nat) (j : Nat) : Prop := ¬ Lt (c j) ∧ ¬ Dg (c j) ∧ c j ≠ 46
def TailZ (c : Nat → Nat) (p j : Nat) : Prop := p ≤ j ∧ Digs c p j ∧ EndN c j
def TailE (c : Nat → Nat) (p j : Nat) : Prop := (Dg (c p) ∧ TailZ c (p + 1) j) ∨ ((c p = 43 ∨ c p = 45) ∧ Dg (c (p + 1)) ∧ TailZ c (p + 2) j)
def TailX (c : Nat → Nat) (f j : Nat) : Prop := ((c f = 101 ∨ c f = 69) ∧ TailE c (f + 1) j) ∨ (j = f ∧ EndN c f)
def TailF (c : Nat → Nat) (p j : Nat) : Prop := ∃ f, p ≤ f ∧ Digs c p f ∧ ¬ Dg (c f) ∧ TailX c f j
def TailD (c : Nat → Nat) (a j : Nat) : Prop := (c a = 46 ∧ Dg (c (a + 1)) ∧ TailF c (a + 2) j) ∨ (c a ≠ 46 ∧ TailX c a j)
def TailI (c : Nat → Nat) (p j : Nat) : Prop := ∃ a, p ≤ a ∧ Digs c p a ∧ ¬ Dg (c a) ∧ TailD c a j
/-- A number. -/
def Num (c : Nat → Nat) (i j : Nat) : Prop := (c i = 48 ∧ TailD c (i + 1) j) ∨ (49 ≤ c i ∧ c i ≤ 57 ∧ TailI c (i + 1) j)

/-- One piece of a text, from i to j, of d tokens (0 or 1). -/
inductive Piece (c : Nat → Nat) : Nat → Nat → Nat → Prop
  | ws (i : Nat) : Ws (c i) → Piece c i (i + 1) 0
  | line (i j : Nat) : (c i = 35 ∨ (c i = 47 ∧ c (i + 1) = 47)) → i < j → (∀ k, i ≤ k → k < j → c k ≠ 10 ∧ c k ≠ 256) → (c j = 10 ∨ c j = 256) → Piece c i j 0
  | comm (i j : Nat) : c i = 47 → c (i + 1) = 42 → i + 2 ≤ j → (∀ k, i + 2 ≤ k → k < j → ¬ (c k = 42 ∧ c (k + 1) = 47) ∧ c k ≠ 256) → c j = 42 → c (j + 1) = 47 → Piece c i (j + 2) 0
  | block (i a b n j : Nat) : c i = 124 → c (i + 1) = 124 → c (i + 2) = 124 → i + 3 ≤ a → (∀ k, i + 3 ≤ k → k < a → Bl (c k)) → c a = 10 → a < b → (∀ k, a ≤ k → k < b → c k = 10) → 0 < n → (∀ k, b ≤ k → k < b + n → Bl (c k)) → ¬ Bl (c (b + n)) →
      Blk c b n b j → Piece c i j 1
  | verb (i j q : Nat) : c i = 64 → c (i + 1) = q → (q = 34 ∨ q = 39) → Verb c q (i + 2) j → Piece c i j 1
  | quot (i j q : Nat) : c i = q → (q = 34 ∨ q = 39) → Quot c q (i + 1) j → Piece c i j 1
  | num (i j : Nat) : Num c i j → Piece c i j 1
  | ident (i j : Nat) : Lt (c i) → i < j → (∀ k, i ≤ k → k < j → Lt (c k) ∨ Dg (c k)) → ¬ Lt (c j) → ¬ Dg (c j) → Piece c i j 1
  | punct (i : Nat) : Pn (c i) → Piece c i (i + 1) 1
  | sign (i e j : Nat) : Op (c i) → ¬ (c i = 47 ∧ (c (i + 1) = 47 ∨ c (i + 1) = 42)) → ¬ (c i = 124 ∧ c (i + 1) = 124 ∧ c (i + 2) = 124) → i < e →
      (∀ k, i < k → k < e → Op (c k) ∧ c k ≠ 47 ∧ ¬ (c k = 124 ∧ c (k + 1) = 124)) → (¬ Op (c e) ∨ c e = 47) → ((j = i + 1 ∧ (e = i + 1 ∨ Tr (c (e - 1)))) ∨ (j = e ∧ ¬ Tr (c (e - 1)))) → Piece c i j 1

/-- A text, from i to k, cut into pieces: n tokens in all. -/
inductive Chain (c : Nat → Nat) : Nat → Nat → Nat → Prop
  | nil (i : Nat) : Chain c i i 0
  | cons (i j k d n : Nat) : Piece c i j d → Chain c j k n → Chain c i k (d + n)

theorem Chain.snoc {c : Nat → Nat} {i j k n d : Nat} (h : Chain c i j n) (hp : Piece c j k d) : Chain c i k (n + d) := by
  induction h with
  | nil i => rw [Nat.zero_add]; exact Chain.cons _ _ _ d 0 hp (Chain.nil _)
  | cons i j' k' d' n' h1 _ ih => rw [Nat.add_assoc]; exact Chain.cons _ _ _ _ _ h1 (ih hp)

theorem Chain.trans {c : Nat → Nat} {i j k n m : Nat} (h : Chain c i j n) (h2 : Chain c j k m) : Chain c i k (n + m) := by
  induction h with
  | nil i => rw [Nat.zero_add]; exact h2
  | cons i j' k' d' n' h1 _ ih => rw [Nat.add_assoc]; exact Chain.cons _ _ _ _ _ h1 (ih h2)

theorem Quot.lt {c : Nat → Nat} {q k j : Nat} (h : Quot c q k j) : k < j := by
  induction h with
  | fin k _ => omega
  | esc k j _ _ _ ih => omega
  | step k j _ _ _ _ ih => omega
theorem Verb.lt {c : Nat → Nat} {q k j : Nat} (h : Verb c q k j) : k < j := by
  induction h with
  | fin k _ _ => omega
  | dbl k j _ _ _ ih => omega
  | step k j _ _ _ ih => omega
theorem Blk.lt {c : Nat → Nat} {a n k j : Nat} (h : Blk c a n k j) : k + 3 ≤ j := by
  induction h with
  | nl k j _ _ ih => omega
  | line k e j _ _ _ _ _ _ ih => omega
  | fin k e _ _ _ _ _ _ _ => omega
theorem TailZ.le {c : Nat → Nat} {p j : Nat} (h : TailZ c p j) : p ≤ j := h.1
theorem TailE.lt {c : Nat → Nat} {p j : Nat} (h : TailE c p j) : p < j := by
  rcases h with ⟨_, h⟩ | ⟨_, _, h⟩ <;> have := h.le <;> omega
theorem TailX.le {c : Nat → Nat} {p j : Nat} (h : TailX c p j) : p ≤ j := by
  rcases h with ⟨_, h⟩ | ⟨h, _⟩
  · have := h.lt; omega
  · omega
theorem TailF.le {c : Nat → Nat} {p j : Nat} (h : TailF c p j) : p ≤ j := by
  obtain ⟨f, h1, _, _, h2⟩ := h
  have := h2.le; omega
theorem TailD.le {c : Nat → Nat} {p j : Nat} (h : TailD c p j) : p ≤ j := by
  rcases h with ⟨_, _, h⟩ | ⟨_, h⟩ <;> have := h.le <;> omega
theorem TailI.le {c : Nat → Nat} {p j : Nat} (h : TailI c p j) : p ≤ j := by
  obtain ⟨f, h1, _, _, h2⟩ := h
  have := h2.le; omega
theorem Num.lt {c : Nat → Nat} {p j : Nat} (h : Num c p j) : p < j := by
  rcases h with ⟨_, h⟩ | ⟨_, _, h⟩ <;> have := h.le <;> omega
theorem Piece.lt {c : Nat → Nat} {i j d : Nat} (h : Piece c i j d) : i < j := by
  induction h with
  | ws _ => omega
  | line j _ h _ _ => exact h
  | comm j _ _ _ _ _ _ => omega
  | block a b n j _ _ _ _ _ _ _ _ _ _ _ h7 => have := h7.lt; omega
  | verb j q _ _ _ h4 => have := h4.lt; omega
  | quot j q _ _ h4 => have := h4.lt; omega
  | num j h => exact h.lt
  | ident j _ h _ _ _ => exact h
  | punct _ => omega
  | sign e j _ _ _ _ _ _ h7 => omega

theorem Chain.le {c : Nat → Nat} {i k n : Nat} (h : Chain c i k n) : i ≤ k := by
  induction h with
  | nil i => omega
  | cons i j k d n hp _ ih => have := hp.lt; omega

/-- Shift: a text that stands in another at o, with the end or a newline behind it. -/
structure Near (c c' : Nat → Nat) (o n : Nat) : Prop where
  same : ∀ k, k < n → c' (o + k) = c k
  low : ∀ k, k < n → c k < 256
  done : ∀ k, n ≤ k → c k = 256
  next : c' (o + n) = 256 ∨ c' (o + n) = 10

namespace Near
variable {c c' : Nat → Nat} {o n : Nat}

theorem at_ (h : Near c c' o n) (k : Nat) (hk : k ≤ n) : c' (o + k) = c k ∨ (c k = 256 ∧ c' (o + k) = 10) := by
  rcases Nat.lt_or_ge k n with h1 | h1
  · exact .inl (h.same k h1)
  · obtain rfl : k = n := by omega
    have h2 := h.done k (Nat.le_refl _)
    rcases h.next with h3 | h3
    · exact .inl (by rw [h3, h2])
    · exact .inr ⟨h2, h3⟩

theorem in_ (h : Near c c' o n) {k : Nat} (hk : c k ≠ 256) : k < n ∧ c' (o + k) = c k := by
  rcases Nat.lt_or_ge k n with h1 | h1
  · exact ⟨h1, h.same k h1⟩
  · exact absurd (h.done k h1) hk

theorem quot (h : Near c c' o n) {q k j : Nat} (hq : q ≠ 256) (hr : Quot c q k j) : Quot c' q (o + k) (o + j) := by
  induction hr with
  | fin k h1 => exact Quot.fin _ (by rw [(h.in_ (by rw [h1]; exact hq)).2, h1])
  | esc k j h0 h1 _ ih =>
    have := (h.in_ (k := k) (by rw [h1]; decide)).2
    exact Quot.esc _ _ (by rw [this]; exact h0) (by rw [this, h1]) ih
  | step k j h1 h2 h3 _ ih =>
    have := (h.in_ h3).2
    exact Quot.step _ _ (by rw [this]; exact h1) (by rw [this]; exact h2) (by rw [this]; exact h3) ih

theorem verb (h : Near c c' o n) {q k j : Nat} (hq : q ≠ 256) (hq2 : q ≠ 10) (hr : Verb c q k j) : Verb c' q (o + k) (o + j) := by
  induction hr with
  | fin k h1 h2 =>
    obtain ⟨hk, he⟩ := h.in_ (k := k) (by rw [h1]; exact hq)
    refine Verb.fin _ (by rw [he, h1]) ?_
    rcases h.at_ (k + 1) (by omega) with h3 | ⟨h3, h4⟩
    · rw [show o + k + 1 = o + (k + 1) by omega, h3]; exact h2
    · rw [show o + k + 1 = o + (k + 1) by omega, h4]; exact hq2.symm
  | dbl k j h1 h2 _ ih =>
    exact Verb.dbl _ _ (by rw [(h.in_ (k := k) (by rw [h1]; exact hq)).2, h1]) (by rw [show o + k + 1 = o + (k + 1) by omega, (h.in_ (k := k + 1) (by rw [h2]; exact hq)).2, h2]) ih
  | step k j h1 h2 _ ih =>
    have := (h.in_ h2).2
    exact Verb.step _ _ (by rw [this]; exact h1) (by rw [this]; exact h2) ih

theorem pre (h : Near c c' o n) {a m k : Nat} (ha : ∀ x, x < m → Bl (c (a + x))) (hk : Pre c a m k) : Pre c' (o + a) m (o + k) := by
  intro x hx
  have h1 := hk x hx
  have h2 := ha x hx
  have h3 : c (a + x) ≠ 256 := by unfold Bl at h2; omega
  rw [show o + k + x = o + (k + x) by omega, show o + a + x = o + (a + x) by omega, (h.in_ h3).2, (h.in_ (k := k + x) (by rw [h1]; exact h3)).2]
  exact h1

theorem npre (h : Near c c' o n) {a m k : Nat} (ha : ∀ x, x < m → Bl (c (a + x))) (hk : ¬ Pre c a m k) (h0 : ∃ e, k ≤ e ∧ e < n ∧ (∀ x, k ≤ x → x < e → Bl (c x)) ∧ c e = 124) : ¬ Pre c' (o + a) m (o + k) := by
  intro hp
  obtain ⟨e, he1, he2, _, he4⟩ := h0
  apply hk
  intro x hx
  have h2 := ha x hx
  have h3 : c (a + x) ≠ 256 := by unfold Bl at h2; omega
  -- the place of the first sign behind the blanks is not reached
  have hxe : k + x < n := by
    rcases Nat.lt_or_ge (k + x) n with h4 | h4
    · exact h4
    · -- then e lies among the places that read alike: it would be a blank
      exfalso
      have hy := hp (e - k) (by omega)
      rw [show o + k + (e - k) = o + e by omega, show o + a + (e - k) = o + (a + (e - k)) by omega, h.same e he2, he4] at hy
      have h5 := ha (e - k) (by omega)
      have h6 : c (a + (e - k)) ≠ 256 := by unfold Bl at h5; omega
      rw [(h.in_ h6).2] at hy
      unfold Bl at h5
      omega
  have hy := hp x hx
  rw [show o + k + x = o + (k + x) by omega, show o + a + x = o + (a + x) by omega, h.same _ hxe, (h.in_ h3).2] at hy
  exact hy

theorem blk (h : Near c c' o n) {a m k j : Nat} (ha : ∀ x, x < m → Bl (c (a + x))) (hr : Blk c a m k j) : Blk c' (o + a) m (o + k) (o + j) := by
  induction hr with
  | nl k j h1 _ ih => exact Blk.nl _ _ (by rw [(h.in_ (k := k) (by rw [h1]; decide)).2, h1]) ih
  | line k e j h0 h1 h2 h3 h4 _ ih =>
    obtain ⟨he, hee⟩ := h.in_ (k := e) (by rw [h4]; decide)
    refine Blk.line _ (o + e) _ ?_ (h.pre ha h1) (by omega) (fun x hx1 hx2 => ?_) (by rw [hee, h4]) ih
    · rw [h.same k (by omega)]; exact h0
    · obtain ⟨y, rfl⟩ : ∃ y, x = o + y := ⟨x - o, by omega⟩
      rw [h.same y (by omega)]
      exact h3 y (by omega) (by omega)
  | fin k e h0 h1 h2 h3 h4 h5 h6 =>
    obtain ⟨he, hee⟩ := h.in_ (k := e) (by rw [h4]; decide)
    have hx1 := (h.in_ (k := e + 1) (by rw [h5]; decide)).2
    have hx2 := (h.in_ (k := e + 2) (by rw [h6]; decide)).2
    refine Blk.fin _ (o + e) (by rw [h.same k (by omega)]; exact h0) (h.npre ha h1 ⟨e, h2, he, h3, h4⟩) (by omega) (fun x hx1 hx2 => ?_) (by rw [hee, h4]) (by rw [show o + e + 1 = o + (e + 1) by omega, hx1, h5]) (by rw [show o + e + 2 = o + (e + 2) by omega, hx2, h6])
    obtain ⟨y, rfl⟩ : ∃ y, x = o + y := ⟨x - o, by omega⟩
    rw [h.same y (by omega)]
    exact h3 y (by omega) (by omega)

theorem digs (h : Near c c' o n) {a b : Nat} (hr : Digs c a b) : Digs c' (o + a) (o + b) := by
  intro x h1 h2
  obtain ⟨y, rfl⟩ : ∃ y, x = o + y := ⟨x - o, by omega⟩
  have h3 := hr y (by omega) (by omega)
  rw [(h.in_ (k := y) (by unfold Dg at h3; omega)).2]
  exact h3

theorem dg (h : Near c c' o n) {k : Nat} (hr : Dg (c k)) : Dg (c' (o + k)) := by
  rw [(h.in_ (k := k) (by unfold Dg at hr; omega)).2]; exact hr

/-- What is said of a sign in the negative, and does not bar a newline, is said behind the shift. -/
theorem neg (h : Near c c' o n) {k : Nat} (hk : k ≤ n) (R : Nat → Prop) (h10 : R 10) (hr : R (c k)) : R (c' (o + k)) := by
  rcases h.at_ k hk with h1 | ⟨_, h1⟩
  · rw [h1]; exact hr
  · rw [h1]; exact h10

theorem endN (h : Near c c' o n) {k : Nat} (hk : k ≤ n) (hr : EndN c k) : EndN c' (o + k) :=
  h.neg hk (fun x => ¬ Lt x ∧ ¬ Dg x ∧ x ≠ 46) (by unfold Lt Dg; omega) hr

theorem tailZ (h : Near c c' o n) {p j : Nat} (hj : j ≤ n) (hr : TailZ c p j) : TailZ c' (o + p) (o + j) :=
  ⟨by have := hr.1; omega, h.digs hr.2.1, h.endN hj hr.2.2⟩

theorem tailE (h : Near c c' o n) {p j : Nat} (hj : j ≤ n) (hr : TailE c p j) : TailE c' (o + p) (o + j) := by
  rcases hr with ⟨h1, h2⟩ | ⟨h1, h2, h3⟩
  · exact .inl ⟨h.dg h1, h.tailZ hj h2⟩
  · refine .inr ⟨?_, h.dg h2, h.tailZ hj h3⟩
    rw [(h.in_ (k := p) (by omega)).2]; exact h1

theorem tailX (h : Near c c' o n) {p j : Nat} (hj : j ≤ n) (hr : TailX c p j) : TailX c' (o + p) (o + j) := by
  rcases hr with ⟨h1, h2⟩ | ⟨h1, h2⟩
  · refine .inl ⟨?_, h.tailE hj h2⟩
    rw [(h.in_ (k := p) (by omega)).2]; exact h1
  · subst h1
    exact .inr ⟨rfl, h.endN hj h2⟩

theorem ndg (h : Near c c' o n) {k : Nat} (hk : k ≤ n) (hr : ¬ Dg (c k)) : ¬ Dg (c' (o + k)) := h.neg hk (fun x => ¬ Dg x) (by unfold Dg; omega) hr

theorem tailF (h : Near c c' o n) {p j : Nat} (hj : j ≤ n) (hr : TailF c p j) : TailF c' (o + p) (o + j) := by
  obtain ⟨f, h1, h2, h3, h4⟩ := hr
  have := h4.le
  exact ⟨o + f, by omega, h.digs h2, h.ndg (by omega) h3, h.tailX hj h4⟩

theorem tailD (h : Near c c' o n) {p j : Nat} (hj : j ≤ n) (hr : TailD c p j) : TailD c' (o + p) (o + j) := by
  rcases hr with ⟨h1, h2, h3⟩ | ⟨h1, h2⟩
  · exact .inl ⟨by rw [(h.in_ (k := p) (by omega)).2]; exact h1, h.dg h2, h.tailF hj h3⟩
  · have := h2.le
    exact .inr ⟨h.neg (by omega) (fun x => x ≠ 46) (by omega) h1, h.tailX hj h2⟩

theorem tailI (h : Near c c' o n) {p j : Nat} (hj : j ≤ n) (hr : TailI c p j) : TailI c' (o + p) (o + j) := by
  obtain ⟨f, h1, h2, h3, h4⟩ := hr
  have := h4.le
  exact ⟨o + f, by omega, h.digs h2, h.ndg (by omega) h3, h.tailD hj h4⟩

theorem num (h : Near c c' o n) {i j : Nat} (hj : j ≤ n) (hr : Num c i j) : Num c' (o + i) (o + j) := by
  rcases hr with ⟨h1, h2⟩ | ⟨h1, h2, h3⟩
  · exact .inl ⟨by rw [(h.in_ (k := i) (by omega)).2]; exact h1, h.tailD hj h2⟩
  · rw [← (h.in_ (k := i) (by omega)).2] at h1 h2
    exact .inr ⟨h1, h2, h.tailI hj h3⟩

theorem piece (h : Near c c' o n) {i j d : Nat} (hj : j ≤ n) (hr : Piece c i j d) : Piece c' (o + i) (o + j) d := by
  induction hr with
  | ws h1 => exact Piece.ws _ (by rw [h.same i (by omega)]; exact h1)
  | line j h1 h2 h3 h4 =>
    refine Piece.line _ _ ?_ (by omega) (fun x hx1 hx2 => ?_) ?_
    · rw [h.same i (by omega)]
      rcases h1 with h1 | ⟨h1, h5⟩
      · exact .inl h1
      · exact .inr ⟨h1, by rw [show o + i + 1 = o + (i + 1) by omega, (h.in_ (k := i + 1) (by omega)).2]; exact h5⟩
    · obtain ⟨y, rfl⟩ : ∃ y, x = o + y := ⟨x - o, by omega⟩
      rw [h.same y (by omega)]
      exact h3 y (by omega) (by omega)
    · exact h.neg hj (fun x => x = 10 ∨ x = 256) (.inl rfl) h4
  | comm j h1 h2 h3 h4 h5 h6 =>
    refine Piece.comm (o + i) (o + j) (by rw [h.same i (by omega)]; exact h1) (by rw [show o + i + 1 = o + (i + 1) by omega, h.same (i + 1) (by omega)]; exact h2) (by omega) (fun x hx1 hx2 => ?_) (by rw [h.same j (by omega)]; exact h5) (by rw [show o + j + 1 = o + (j + 1) by omega, h.same (j + 1) (by omega)]; exact h6)
    obtain ⟨y, rfl⟩ : ∃ y, x = o + y := ⟨x - o, by omega⟩
    rw [h.same y (by omega), show o + y + 1 = o + (y + 1) by omega, h.same (y + 1) (by omega)]
    exact h4 y (by omega) (by omega)
  | block a b m j h1 h2 h3 h4 h5 h6 h7 h8 h9 h10 h11 h12 =>
    have hb := h12.lt
    have hbm : b + m ≤ n := by
      rcases Nat.lt_or_ge n (b + m) with hx | hx
      · have h13 := h10 n (by omega) hx
        have h14 := h.done n (Nat.le_refl _)
        unfold Bl at h13
        omega
      · exact hx
    refine Piece.block _ (o + a) (o + b) m _ (by rw [h.same i (by omega)]; exact h1) (by rw [show o + i + 1 = o + (i + 1) by omega, h.same (i + 1) (by omega)]; exact h2) (by rw [show o + i + 2 = o + (i + 2) by omega, h.same (i + 2) (by omega)]; exact h3) (by omega) (fun x hx1 hx2 => ?_) (by rw [h.same a (by omega)]; exact h6) (by omega) (fun x hx1 hx2 => ?_) h9 (fun x hx1 hx2 => ?_) ?_ (h.blk (fun x hx => h10 (b + x) (by omega) (by omega)) h12)
    · obtain ⟨y, rfl⟩ : ∃ y, x = o + y := ⟨x - o, by omega⟩
      rw [h.same y (by omega)]
      exact h5 y (by omega) (by omega)
    · obtain ⟨y, rfl⟩ : ∃ y, x = o + y := ⟨x - o, by omega⟩
      rw [h.same y (by omega)]
      exact h8 y (by omega) (by omega)
    · obtain ⟨y, rfl⟩ : ∃ y, x = o + y := ⟨x - o, by omega⟩
      rw [h.same y (by omega)]
      exact h10 y (by omega) (by omega)
    · rw [show o + b + m = o + (b + m) by omega]
      exact h.neg hbm (fun x => ¬ Bl x) (by unfold Bl; omega) h11
  | verb j q h1 h2 h3 h4 =>
    have := h4.lt
    exact Piece.verb _ _ q (by rw [h.same i (by omega)]; exact h1) (by rw [show o + i + 1 = o + (i + 1) by omega, h.same (i + 1) (by omega)]; exact h2) h3 (h.verb (by omega) (by omega) h4)
  | quot j q h1 h3 h4 =>
    have := h4.lt
    exact Piece.quot _ _ q (by rw [h.same i (by omega)]; exact h1) h3 (h.quot (by omega) h4)
  | num j h1 => exact Piece.num _ _ (h.num hj h1)
  | ident j h1 h2 h3 h4 h5 =>
    refine Piece.ident _ _ (by rw [h.same i (by omega)]; exact h1) (by omega) (fun x hx1 hx2 => ?_) (h.neg hj (fun x => ¬ Lt x) (by unfold Lt; omega) h4) (h.ndg hj h5)
    obtain ⟨y, rfl⟩ : ∃ y, x = o + y := ⟨x - o, by omega⟩
    rw [h.same y (by omega)]
    exact h3 y (by omega) (by omega)
  | punct h1 => exact Piece.punct _ (by rw [h.same i (by omega)]; exact h1)
  | sign e j h1 h2 h3 h4 h5 h6 h7 =>
    have hi : i < n := by omega
    have he : e ≤ n := by
      rcases Nat.lt_or_ge n e with hx | hx
      · have h8 := h5 n (by omega) hx
        have h9 := h.done n (Nat.le_refl _)
        unfold Op at h8
        omega
      · exact hx
    refine Piece.sign _ (o + e) _ (by rw [h.same i hi]; exact h1) ?_ ?_ (by omega) (fun x hx1 hx2 => ?_) ?_ ?_
    · rw [h.same i hi, show o + i + 1 = o + (i + 1) by omega]
      exact fun hh => h.neg (k := i + 1) (by omega) (fun x => ¬ (c i = 47 ∧ (x = 47 ∨ x = 42))) (by omega) h2 hh
    · rw [h.same i hi, show o + i + 1 = o + (i + 1) by omega, show o + i + 2 = o + (i + 2) by omega]
      rintro ⟨g1, g2, g3⟩
      rcases Nat.lt_or_ge (i + 1) n with hx | hx
      · rw [h.same _ hx] at g2
        rcases h.at_ (i + 2) (by omega) with g4 | ⟨_, g4⟩
        · rw [g4] at g3; exact h3 ⟨g1, g2, g3⟩
        · omega
      · obtain hx2 : i + 1 = n := by omega
        rw [hx2] at g2
        rcases h.next with g4 | g4 <;> omega
    · obtain ⟨y, rfl⟩ : ∃ y, x = o + y := ⟨x - o, by omega⟩
      obtain ⟨g1, g2, g3⟩ := h5 y (by omega) (by omega)
      rw [h.same y (by omega), show o + y + 1 = o + (y + 1) by omega]
      exact ⟨g1, g2, fun hh => h.neg (k := y + 1) (by omega) (fun x => ¬ (c y = 124 ∧ x = 124)) (by omega) g3 hh⟩
    · exact h.neg he (fun x => ¬ Op x ∨ x = 47) (by unfold Op; omega) h6
    · rw [show o + e - 1 = o + (e - 1) by omega, h.same (e - 1) (by omega)]
      rcases h7 with ⟨g1, g2⟩ | ⟨g1, g2⟩
      · exact .inl ⟨by omega, g2.imp (fun g => by omega) id⟩
      · exact .inr ⟨by omega, g2⟩

theorem chain (h : Near c c' o n) {i j d : Nat} (hj : j ≤ n) (hr : Chain c i j d) : Chain c' (o + i) (o + j) d := by
  induction hr with
  | nil i => exact Chain.nil _
  | cons i j k d m hp hc ih =>
    have := hc.le
    exact Chain.cons _ _ _ _ _ (h.piece (by omega) hp) (ih hj)

end Near

theorem ch_in (s : ByteArray) (i : Nat) (h : i < s.size) : ch s i = s[i].toNat := by unfold ch; rw [dif_pos h]
theorem ch_lt (s : ByteArray) (i : Nat) (h : i < s.size) : ch s i < 256 := by rw [ch_in s i h]; exact s[i].toNat_lt
theorem ch_out (s : ByteArray) (i : Nat) (h : s.size ≤ i) : ch s i = 256 := by unfold ch; rw [dif_neg (by omega)]
theorem ch_ne {s : ByteArray} {i : Nat} (h : ch s i ≠ 256) : i < s.size := by
  rcases Nat.lt_or_ge i s.size with h1 | h1
  · exact h1
  · exact absurd (ch_out s i h1) h
theorem ch_getD (s : ByteArray) (i : Nat) (h : i < s.size) : (s.data.toList.getD i 0).toNat = ch s i := by
  rw [ch_in s i h]
  have : i < s.data.toList.length := by rw [← Lib.size_eq]; exact h
  simp [List.getD, List.getElem?_eq_getElem this]
  rfl
end Go.Proofs.YtjjmgnllhihoeaaGreatFmt

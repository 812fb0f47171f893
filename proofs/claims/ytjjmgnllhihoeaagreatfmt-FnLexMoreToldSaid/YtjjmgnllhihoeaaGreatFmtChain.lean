/- Plain Lean: what a chain of pieces says at its first place; white space dropped ahead of it; two texts with a newline between. -/
import Derived.Test.YtjjmgnllhihoeaaGreatFmtText
set_option linter.unusedSimpArgs false
set_option linter.unusedVariables false
namespace Go.Proofs.YtjjmgnllhihoeaaGreatFmt
open Go

theorem Num.dg {c : Nat → Nat} {i j : Nat} (h : Num c i j) : Dg (c i) := by
  rcases h with ⟨h, _⟩ | ⟨h1, h2, _⟩ <;> unfold Dg <;> omega

/-- A piece that begins with white space is one sign of it. -/
theorem Piece.wsInv {c : Nat → Nat} {i j d : Nat} (h : Piece c i j d) (hw : Ws (c i)) : j = i + 1 ∧ d = 0 := by
  cases h with
  | ws _ => exact ⟨rfl, rfl⟩
  | line _ h1 => unfold Ws at hw; omega
  | comm _ h1 => unfold Ws at hw; omega
  | block _ _ _ _ h1 => unfold Ws at hw; omega
  | verb _ _ h1 => unfold Ws at hw; omega
  | quot _ _ h1 h2 => unfold Ws at hw; omega
  | num _ h1 => have := h1.dg; unfold Dg at this; unfold Ws at hw; omega
  | ident _ h1 => unfold Lt at h1; unfold Ws at hw; omega
  | punct h1 => unfold Pn at h1; unfold Ws at hw; omega
  | sign _ _ h1 => unfold Op at h1; unfold Ws at hw; omega

theorem Chain.dropWs {c : Nat → Nat} {e n : Nat} (he : ¬ Ws (c e)) : ∀ (d p : Nat), Chain c p e n → (∀ k, p ≤ k → k < p + d → Ws (c k)) → Chain c (p + d) e n
  | 0, _, h, _ => h
  | d + 1, p, h, hw => by
    have h0 := hw p (Nat.le_refl _) (by omega)
    cases h with
    | nil _ => exact absurd h0 he
    | cons _ j _ d' n' hp hc =>
      obtain ⟨rfl, rfl⟩ := hp.wsInv h0
      have := Chain.dropWs he d (p + 1) hc (fun k h1 h2 => hw k (by omega) (by omega))
      rw [show p + (d + 1) = p + 1 + d by omega, Nat.zero_add]
      exact this

theorem Chain.skipWs {c : Nat → Nat} {e n p p' : Nat} (h : Chain c p e n) (he : ¬ Ws (c e)) (hp : p ≤ p') (hw : ∀ k, p ≤ k → k < p' → Ws (c k)) : Chain c p' e n := by
  have := Chain.dropWs he (p' - p) p h (fun k h1 h2 => hw k h1 (by omega))
  rw [show p + (p' - p) = p' by omega] at this
  exact this

/-- What stands at the first place of a chain that is not at its end. -/
theorem Chain.uncons {c : Nat → Nat} {i k n : Nat} (h : Chain c i k n) (hi : i ≠ k) : ∃ j d m, Piece c i j d ∧ Chain c j k m ∧ n = d + m := by
  cases h with
  | nil _ => exact absurd rfl hi
  | cons _ j _ d m hp hc => exact ⟨j, d, m, hp, hc, rfl⟩

theorem Chain.end_ {c : Nat → Nat} {i n : Nat} (h : Chain c i i n) : n = 0 := by
  cases h with
  | nil _ => rfl
  | cons _ j _ d m hp hc => have := hp.lt; have := hc.le; omega

theorem Piece.tok1 {c : Nat → Nat} {i j d : Nat} (h : Piece c i j d) : d ≤ 1 := by
  cases h <;> omega

theorem Chain.tokLe {c : Nat → Nat} {i k n : Nat} (h : Chain c i k n) : n ≤ k - i := by
  induction h with
  | nil i => omega
  | cons i j k d n hp hc ih => have := hp.lt; have := hp.tok1; have := hc.le; omega

theorem ch_app (s a r : ByteArray) (k : Nat) : (k < s.size → ch (s ++ a ++ r) k = ch s k) ∧ (s.size ≤ k → k < s.size + a.size → ch (s ++ a ++ r) k = ch a (k - s.size)) ∧
    (s.size + a.size ≤ k → k < s.size + a.size + r.size → ch (s ++ a ++ r) k = ch r (k - (s.size + a.size))) := by
  have hs : (s ++ a ++ r).size = s.size + a.size + r.size := by simp [Nat.add_assoc]
  refine ⟨fun h => ?_, fun h1 h2 => ?_, fun h1 h2 => ?_⟩
  · rw [ch_in _ k (by omega), ch_in s k h, ByteArray.getElem_append_left (by simp; omega), ByteArray.getElem_append_left h]
  · rw [ch_in _ k (by omega), ch_in a (k - s.size) (by omega), ByteArray.getElem_append_left (by simp; omega), ByteArray.getElem_append_right h1]
  · rw [ch_in _ k (by omega), ch_in r (k - (s.size + a.size)) (by omega), ByteArray.getElem_append_right (by simp; omega)]
    congr 1
    simp

theorem ch_ext2 (t : ByteArray) (p e : Nat) (i : Nat) (hi : p + i < e) (he : e ≤ t.size) : ch (t.extract p e) i = ch t (p + i) := by
  have hs : (t.extract p e).size = e - p := by simp; omega
  rw [ch_in _ i (by omega), ch_in t (p + i) (by omega)]
  simp [ByteArray.getElem_extract]

/-- Two texts with a newline between. -/
theorem chain_two (s r : ByteArray) {n m : Nat} (hs : Chain (ch s) 0 s.size n) (hr : Chain (ch r) 0 r.size m) : Chain (ch (s ++ ⟨#[10]⟩ ++ r)) 0 (s ++ ⟨#[10]⟩ ++ r).size (n + m) := by
  have hz : (s ++ ⟨#[10]⟩ ++ r).size = s.size + 1 + r.size := by simp [Nat.add_assoc]; rfl
  have h1 : (⟨#[10]⟩ : ByteArray).size = 1 := rfl
  have hnl : ch (s ++ ⟨#[10]⟩ ++ r) s.size = 10 := by
    rw [(ch_app s ⟨#[10]⟩ r s.size).2.1 (Nat.le_refl _) (by omega), Nat.sub_self]; rfl
  have N1 : Near (ch s) (ch (s ++ ⟨#[10]⟩ ++ r)) 0 s.size :=
    ⟨fun k hk => by rw [Nat.zero_add]; exact (ch_app s ⟨#[10]⟩ r k).1 hk, fun k hk => ch_lt s k hk, fun k hk => ch_out s k hk, .inr (by rw [Nat.zero_add]; exact hnl)⟩
  have N2 : Near (ch r) (ch (s ++ ⟨#[10]⟩ ++ r)) (s.size + 1) r.size :=
    ⟨fun k hk => by rw [(ch_app s ⟨#[10]⟩ r (s.size + 1 + k)).2.2 (by omega) (by omega), h1, show s.size + 1 + k - (s.size + 1) = k by omega], fun k hk => ch_lt r k hk, fun k hk => ch_out r k hk, .inl (ch_out _ _ (by omega))⟩
  have c1 := N1.chain (Nat.le_refl _) hs
  have c2 := N2.chain (Nat.le_refl _) hr
  rw [Nat.zero_add, Nat.zero_add] at c1
  have c3 := c1.snoc (Piece.ws s.size (by unfold Ws; rw [hnl]; omega))
  have := c3.trans (by rw [Nat.add_zero] at c2; exact c2)
  rw [hz]
  rw [Nat.add_zero] at this
  exact this
end Go.Proofs.YtjjmgnllhihoeaaGreatFmt

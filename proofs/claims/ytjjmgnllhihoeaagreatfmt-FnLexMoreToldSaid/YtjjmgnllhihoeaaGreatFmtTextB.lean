/- Plain Lean: the rune at a place and the place behind it, beside the bytes; how scanning by runes and by bytes agree. -/
import Derived.Test.YtjjmgnllhihoeaaGreatFmtText
import Derived.Shelf.Unicode.DecodeAny
set_option linter.unusedSimpArgs false
set_option linter.unusedVariables false
namespace Go.Proofs.YtjjmgnllhihoeaaGreatFmt
open Go


/-- The rune at a place (-1 at the end), and the place behind it. -/
def rv (s : ByteArray) (p : Nat) : Int := if p < s.size then ((Utf8.decode s p).1 : Int) else -1
def nx (s : ByteArray) (p : Nat) : Nat := if p < s.size then p + (Utf8.decode s p).2 else p

theorem decodeN_bytes (n b0 b1 b2 b3 : Nat) (hn : 1 ≤ n) : (Lib.decodeN n b0 b1 b2 b3).2 ≤ n ∧ 1 ≤ (Lib.decodeN n b0 b1 b2 b3).2 ∧
    (1 < (Lib.decodeN n b0 b1 b2 b3).2 → b1 / 64 = 2) ∧ (2 < (Lib.decodeN n b0 b1 b2 b3).2 → b2 / 64 = 2) ∧ (3 < (Lib.decodeN n b0 b1 b2 b3).2 → b3 / 64 = 2) ∧ (Lib.decodeN n b0 b1 b2 b3).2 ≤ 4 := by
  unfold Lib.decodeN
  repeat' split
  all_goals (simp only; omega)

theorem rv_end (s : ByteArray) (p : Nat) (h : s.size ≤ p) : rv s p = -1 ∧ nx s p = p := by
  unfold rv nx
  rw [if_neg (by omega), if_neg (by omega)]
  exact ⟨rfl, rfl⟩

theorem rv_low (s : ByteArray) (p : Nat) (h : ch s p < 128) : rv s p = (ch s p : Int) ∧ nx s p = p + 1 ∧ p < s.size := by
  have hp : p < s.size := ch_ne (by omega)
  rw [ch_in s p hp] at h ⊢
  unfold rv nx
  rw [if_pos hp, if_pos hp, decode_ascii s p hp h]
  exact ⟨rfl, rfl, hp⟩

theorem rv_high (s : ByteArray) (p : Nat) (hp : p < s.size) (h : 128 ≤ ch s p) :
    128 ≤ rv s p ∧ rv s p ≤ 2147483647 ∧ p < nx s p ∧ nx s p ≤ s.size ∧ ∀ k, p ≤ k → k < nx s p → 128 ≤ ch s k ∧ ch s k < 256 := by
  have h1 := decode_high s p hp (by rw [← ch_in s p hp]; exact h)
  have h2 := decode_le s p
  have h3 := decodeN_bytes (s.data.toList.length - p) (s.data.toList.getD p 0).toNat (s.data.toList.getD (p + 1) 0).toNat (s.data.toList.getD (p + 2) 0).toNat (s.data.toList.getD (p + 3) 0).toNat (by rw [← Lib.size_eq]; omega)
  rw [← Lib.decode_N, ← Lib.size_eq] at h3
  obtain ⟨h4, h5, h6, h7, h8, h9⟩ := h3
  unfold rv nx
  rw [if_pos hp, if_pos hp]
  refine ⟨by omega, by omega, by omega, by omega, fun k hk1 hk2 => ?_⟩
  have hks : k < s.size := by omega
  refine ⟨?_, ch_lt s k hks⟩
  rw [← ch_getD s k hks]
  obtain ⟨m, rfl⟩ : ∃ m, k = p + m := ⟨k - p, by omega⟩
  have hm : m = 0 ∨ m = 1 ∨ m = 2 ∨ m = 3 := by omega
  rcases hm with rfl | rfl | rfl | rfl
  · rw [Nat.add_zero, ch_getD s p hp]; exact h
  · have := h6 (by omega); omega
  · have := h7 (by omega); omega
  · have := h8 (by omega); omega

theorem nx_le (s : ByteArray) (p : Nat) (h : p ≤ s.size) : p ≤ nx s p ∧ nx s p ≤ s.size := by
  rcases Nat.lt_or_ge p s.size with h1 | h1
  · rcases Nat.lt_or_ge (ch s p) 128 with h2 | h2
    · have := rv_low s p h2; omega
    · have := rv_high s p h1 h2; omega
  · have := rv_end s p h1; omega
theorem nx_lt (s : ByteArray) (p : Nat) (h : p < s.size) : p < nx s p := by
  rcases Nat.lt_or_ge (ch s p) 128 with h2 | h2
  · have := rv_low s p h2; omega
  · have := rv_high s p h h2; omega
theorem rv_range (s : ByteArray) (p : Nat) : -1 ≤ rv s p ∧ rv s p ≤ 2147483647 := by
  rcases Nat.lt_or_ge p s.size with h1 | h1
  · rcases Nat.lt_or_ge (ch s p) 128 with h2 | h2
    · have := rv_low s p h2; omega
    · have := rv_high s p h1 h2; omega
  · have := rv_end s p h1; omega

/-- A rune is an ASCII byte where the byte is that, and nowhere else. -/
theorem rv_eq (s : ByteArray) (p : Nat) (x : Nat) (hx : x < 128) : rv s p = (x : Int) ↔ ch s p = x := by
  rcases Nat.lt_or_ge p s.size with h1 | h1
  · rcases Nat.lt_or_ge (ch s p) 128 with h2 | h2
    · have := rv_low s p h2; omega
    · have := rv_high s p h1 h2; omega
  · have := rv_end s p h1
    have := ch_out s p h1
    omega

theorem decode_low (s : ByteArray) (p : Nat) (hp : p < s.size) : rv s p = ((Utf8.decode s p).1 : Int) ∧ nx s p = p + (Utf8.decode s p).2 := by
  unfold rv nx
  rw [if_pos hp, if_pos hp]
  exact ⟨rfl, rfl⟩

theorem decodeGo_tail (s : ByteArray) (i : Nat) (h : i < s.size) : Lib.decodeGo (s.extract i s.size) = Utf8.decode s i := by
  unfold Lib.decodeGo
  have hz : ¬ (s.extract i s.size).size = 0 := by
    rw [ByteArray.size_extract]; omega
  have ht : (s.data.toList.drop i).length ≤ s.size - i := by rw [List.length_drop, ← Lib.size_eq]; exact Nat.le_refl _
  rw [if_neg hz, Lib.decode_N, Lib.decode_N, Lib.extract_data, List.take_of_length_le ht]
  rw [Lib.getD_dropU, Lib.getD_dropU, Lib.getD_dropU, Lib.getD_dropU, List.length_drop]
  simp only [Nat.add_zero, Nat.zero_add, Nat.sub_zero]

/-- Runs of bytes beyond ASCII are passed over. -/
theorem Quot.skip {c : Nat → Nat} {q j : Nat} (hq : q < 128) : ∀ (d k : Nat), Quot c q k j → (∀ m, k ≤ m → m < k + d → 128 ≤ c m ∧ c m < 256) → Quot c q (k + d) j
  | 0, _, h, _ => h
  | d + 1, k, h, hb => by
    have h0 := hb k (Nat.le_refl _) (by omega)
    have h1 : Quot c q (k + 1) j := by
      cases h with
      | fin _ e => omega
      | esc _ _ _ e _ => omega
      | step _ _ _ _ _ e => exact e
    have := Quot.skip hq d (k + 1) h1 (fun m hm1 hm2 => hb m (by omega) (by omega))
    rw [show k + (d + 1) = k + 1 + d by omega]
    exact this

theorem Verb.skip {c : Nat → Nat} {q j : Nat} (hq : q < 128) : ∀ (d k : Nat), Verb c q k j → (∀ m, k ≤ m → m < k + d → 128 ≤ c m ∧ c m < 256) → Verb c q (k + d) j
  | 0, _, h, _ => h
  | d + 1, k, h, hb => by
    have h0 := hb k (Nat.le_refl _) (by omega)
    have h1 : Verb c q (k + 1) j := by
      cases h with
      | fin _ e _ => omega
      | dbl _ _ e _ _ => omega
      | step _ _ _ _ e => exact e
    have := Verb.skip hq d (k + 1) h1 (fun m hm1 hm2 => hb m (by omega) (by omega))
    rw [show k + (d + 1) = k + 1 + d by omega]
    exact this

/-- From the rune at p on: a string between quotes. -/
theorem Quot.next {s : ByteArray} {q p j : Nat} (hq : q < 128) (h : Quot (ch s) q p j) (h1 : ch s p ≠ q) (h2 : ch s p ≠ 92) : Quot (ch s) q (nx s p) j := by
  have hp : ch s p ≠ 256 := by
    cases h with
    | fin _ e => exact absurd e h1
    | esc _ _ _ e _ => exact absurd e h2
    | step _ _ _ _ e _ => exact e
  have hps := ch_ne hp
  rcases Nat.lt_or_ge (ch s p) 128 with h3 | h3
  · rw [(rv_low s p h3).2.1]
    cases h with
    | fin _ e => exact absurd e h1
    | esc _ _ _ e _ => exact absurd e h2
    | step _ _ _ _ _ e => exact e
  · obtain ⟨_, _, a, _, b⟩ := rv_high s p hps h3
    have := Quot.skip hq (nx s p - p) p h (fun m hm1 hm2 => b m hm1 (by omega))
    rw [show p + (nx s p - p) = nx s p by omega] at this
    exact this

theorem Quot.nextEsc {s : ByteArray} {q p j : Nat} (hq : q < 128) (hq2 : q ≠ 92) (h : Quot (ch s) q p j) (h2 : ch s p = 92) : p + 1 < s.size ∧ Quot (ch s) q (nx s (p + 1)) j := by
  have h3 : Quot (ch s) q (p + 2) j := by
    cases h with
    | fin _ e => omega
    | esc _ _ _ _ e => exact e
    | step _ _ _ e _ _ => exact absurd h2 e
  have hp2 : p + 2 < s.size := by
    have : ch s (p + 2) ≠ 256 := by
      cases h3 with
      | fin _ e => omega
      | esc _ _ _ e _ => omega
      | step _ _ _ _ e _ => exact e
    exact ch_ne this
  refine ⟨by omega, ?_⟩
  rcases Nat.lt_or_ge (ch s (p + 1)) 128 with h4 | h4
  · rw [(rv_low s (p + 1) h4).2.1]; exact h3
  · obtain ⟨_, _, a, _, b⟩ := rv_high s (p + 1) (by omega) h4
    have := Quot.skip hq (nx s (p + 1) - (p + 2)) (p + 2) h3 (fun m hm1 hm2 => b m (by omega) (by omega))
    rw [show p + 2 + (nx s (p + 1) - (p + 2)) = nx s (p + 1) by omega] at this
    exact this

theorem Verb.next {s : ByteArray} {q p j : Nat} (hq : q < 128) (h : Verb (ch s) q p j) (h1 : ch s p ≠ q) : Verb (ch s) q (nx s p) j := by
  have hp : ch s p ≠ 256 := by
    cases h with
    | fin _ e _ => exact absurd e h1
    | dbl _ _ e _ _ => exact absurd e h1
    | step _ _ _ e _ => exact e
  have hps := ch_ne hp
  rcases Nat.lt_or_ge (ch s p) 128 with h3 | h3
  · rw [(rv_low s p h3).2.1]
    cases h with
    | fin _ e _ => exact absurd e h1
    | dbl _ _ e _ _ => exact absurd e h1
    | step _ _ _ _ e => exact e
  · obtain ⟨_, _, a, _, b⟩ := rv_high s p hps h3
    have := Verb.skip hq (nx s p - p) p h (fun m hm1 hm2 => b m hm1 (by omega))
    rw [show p + (nx s p - p) = nx s p by omega] at this
    exact this

/-- A stretch up to an ASCII byte at e is not left by one rune. -/
theorem nx_before {s : ByteArray} {p e : Nat} (hpe : p < e) (he : ch s e < 128) : nx s p ≤ e := by
  have hes : e < s.size := ch_ne (by omega)
  rcases Nat.lt_or_ge (ch s p) 128 with h3 | h3
  · rw [(rv_low s p h3).2.1]; omega
  · obtain ⟨_, _, a, _, b⟩ := rv_high s p (by omega) h3
    rcases Nat.lt_or_ge e (nx s p) with h4 | h4
    · have := b e (by omega) h4; omega
    · exact h4
end Go.Proofs.YtjjmgnllhihoeaaGreatFmt

/- The reference's lexer: does a text stand at the place; the end of a line, of blanks, of digits. -/
import Derived.Test.YtjjmgnllhihoeaaGreatFmtSpA
set_option linter.unusedSimpArgs false
set_option linter.unusedVariables false
namespace Go.Proofs.YtjjmgnllhihoeaaGreatFmt
open Go.RowKit
attribute [local go_sem ↓] Go.wp_at_zero Go.wp_at_succ

theorem bytes_eq (a b : ByteArray) : (a.toList == b.toList) = true ↔ a.size = b.size ∧ ∀ i, i < a.size → ch a i = ch b i := by
  have ha : a.toList = a.data.toList := Lib.toList_data _
  have hb : b.toList = b.data.toList := Lib.toList_data _
  rw [beq_iff_eq, ha, hb]
  constructor
  · intro h
    have : a = b := by cases a; cases b; simp at h; rw [h]
    subst this
    exact ⟨rfl, fun _ _ => rfl⟩
  · rintro ⟨h1, h2⟩
    have h1' : a.data.size = b.data.size := h1
    congr 1
    refine Array.ext h1' (fun i hi1 hi2 => ?_)
    have h3 := h2 i hi1
    rw [ch_in a i hi1, ch_in b i hi2] at h3
    exact UInt8.toNat_inj.1 h3

theorem at_eq (s t : ByteArray) (p : Nat) (h : p + t.size ≤ s.size) : ((s.extract p (p + t.size)).toList == t.toList) = true ↔ ∀ i, i < t.size → ch s (p + i) = ch t i := by
  have hs : (s.extract p (p + t.size)).size = t.size := by simp; omega
  rw [bytes_eq, hs]
  constructor
  · rintro ⟨_, h2⟩ i hi
    rw [← h2 i hi, ch_ext2 s p _ i (by omega) h]
  · intro h2
    exact ⟨rfl, fun i hi => by rw [ch_ext2 s p _ i (by omega) h]; exact h2 i hi⟩

/-- Does a text stand at the place? -/
def begB (s : ByteArray) (p : Nat) (t : ByteArray) : Bool := decide (∀ i, i < t.size → ch s (p + i) = ch t i)

def BeginsP (s : ByteArray) (p : Nat) (t : ByteArray) (w : World) (e : Ending) (w' : World) : Prop :=
  e = .returned (.bool (begB s p t)) ∧ ∃ k, w' = w.drewN k

set_option maxRecDepth 100000 in
set_option maxHeartbeats 3200000 in
theorem begins_any (B b : Nat) (s : ByteArray) (p : Nat) (st : Int) (wd : Bool) (n m : Nat) (w : World) (h : SpI B b s p st wd n m w) (t : ByteArray) (ht : t.size ≤ 100) (ht0 : 0 < t.size) :
    Calls Tryz.prog 9 #[.pointer (some ⟨b, 0, none⟩), .string t] w (BeginsP s p t w) := by
  obtain ⟨c0, c1, c2, c5, fz⟩ := h.cells
  obtain ⟨hp, hs⟩ := h.bounds
  have hlt := h.lt
  clear h c2 c5 fz
  by_cases hle : p + t.size ≤ s.size
  · have he : ((s.extract p (p + t.size)).toList == t.toList) = begB s p t := by
      rw [Bool.eq_iff_iff, at_eq s t p hle]; simp [begB]
    have HE := Lib.hid he
    have i1 : (0 : Int) ≤ (p : Int) := by omega
    have i2 : (p : Int) ≤ (p : Int) + (t.size : Int) := by omega
    have i3 : (p : Int) + (t.size : Int) ≤ (s.size : Int) := by omega
    have hd : decide ((t.size : Int) ≤ (s.size : Int) - (p : Int)) = true := by simp; omega
    clear he
    go_enter Tryz.func9, Tryz.ntmps9
    go_wp2_with fail
    go_quiet (fail)
    go_wp2_with fail
    go_ret
    exact ⟨by rw [← HE.out]; rfl, _, rfl⟩
  · have hd : decide ((t.size : Int) ≤ (s.size : Int) - (p : Int)) = false := by simp; omega
    have hn : begB s p t = false := by
      simp only [begB, decide_eq_false_iff_not]
      intro hh
      have h1 := hh (t.size - 1) (by omega)
      rw [ch_out s _ (by omega), ch_in t _ (by omega)] at h1
      have := t[t.size - 1].toNat_lt
      omega
    have HN := Lib.hid hn
    clear hn
    go_enter Tryz.func9, Tryz.ntmps9
    go_wp2_with fail
    go_quiet (fail)
    go_wp2_with fail
    go_ret
    exact ⟨by rw [HN.out]; rfl, _, rfl⟩

theorem begB_iff (s : ByteArray) (p : Nat) (t : ByteArray) : begB s p t = true ↔ ∀ i, i < t.size → ch s (p + i) = ch t i := by simp [begB]
theorem begB_2 (s : ByteArray) (p : Nat) (x y : UInt8) : begB s p ⟨#[x, y]⟩ = true ↔ ch s p = x.toNat ∧ ch s (p + 1) = y.toNat := by
  rw [begB_iff]
  constructor
  · intro h; exact ⟨h 0 (by show 0 < 2; omega), h 1 (by show 1 < 2; omega)⟩
  · rintro ⟨h1, h2⟩ i hi
    have : i = 0 ∨ i = 1 := by have : i < 2 := hi; omega
    rcases this with rfl | rfl
    · exact h1
    · exact h2
theorem begB_3 (s : ByteArray) (p : Nat) (x y z : UInt8) : begB s p ⟨#[x, y, z]⟩ = true ↔ ch s p = x.toNat ∧ ch s (p + 1) = y.toNat ∧ ch s (p + 2) = z.toNat := by
  rw [begB_iff]
  constructor
  · intro h; exact ⟨h 0 (by show 0 < 3; omega), h 1 (by show 1 < 3; omega), h 2 (by show 2 < 3; omega)⟩
  · rintro ⟨h1, h2, h3⟩ i hi
    have : i = 0 ∨ i = 1 ∨ i = 2 := by have : i < 3 := hi; omega
    rcases this with rfl | rfl | rfl
    · exact h1
    · exact h2
    · exact h3

/-- The end of the digits at a place. -/
def DigitsP (s : ByteArray) (a : Nat) (w : World) (e : Ending) (w' : World) : Prop :=
  ∃ f : Nat, e = .returned (.int .i64 f) ∧ a ≤ f ∧ f ≤ s.size ∧ Digs (ch s) a f ∧ ¬ Dg (ch s f) ∧ w = w'

theorem dg_byte (s : ByteArray) (k : Nat) (h : k < s.size) : nuP (s[k].toNat : Int) ↔ Dg (ch s k) := by
  rw [ch_in s k h]; unfold nuP Dg; omega
theorem lt_byte (s : ByteArray) (k : Nat) (h : k < s.size) : ltP (s[k].toNat : Int) ↔ Lt (ch s k) := by
  rw [ch_in s k h]; unfold ltP Lt; omega
theorem not_dg_end (s : ByteArray) (k : Nat) (h : s.size ≤ k) : ¬ Dg (ch s k) := by rw [ch_out s k h]; unfold Dg; omega
theorem not_lt_end (s : ByteArray) (k : Nat) (h : s.size ≤ k) : ¬ Lt (ch s k) := by rw [ch_out s k h]; unfold Lt; omega

set_option maxRecDepth 100000 in
set_option maxHeartbeats 3200000 in
theorem digits_any (B b : Nat) (s : ByteArray) (p : Nat) (st : Int) (wd : Bool) (n m : Nat) (w : World) (h : SpI B b s p st wd n m w) (a : Nat) (ha : a ≤ s.size) :
    Calls Tryz.prog 45 #[.pointer (some ⟨b, 0, none⟩), .int .i64 a] w (DigitsP s a w) := by
  obtain ⟨c0, c1, c2, c5, fz⟩ := h.cells
  obtain ⟨hp, hs⟩ := h.bounds
  have hlt := h.lt
  clear h c1 c2 c5 fz
  go_enter Tryz.func45, Tryz.ntmps45
  go_wp2_with fail
  go_loopg [1] (s.size - a) (fun k x1 wr => ∃ f : Nat, x1 = .int .i64 f ∧ a ≤ f ∧ f ≤ s.size ∧ s.size - f ≤ k ∧ Digs (ch s) a f ∧ wr = w)
  case atStart => exact ⟨a, rfl, Nat.le_refl _, ha, Nat.le_refl _, fun k h1 h2 => by omega, rfl⟩
  case round =>
    obtain ⟨f, rfl, haf, hf, hk, hD, rfl⟩ := hrel
    have HD := Lib.hid hD
    have HK := Lib.hid hk
    clear hD hk
    by_cases hlt' : f < s.size
    · have i0 : (0 : Int) ≤ (f : Int) := by omega
      have HG := Lib.hid (dg_byte s f hlt')
      have hd : decide ((f : Int) < (s.size : Int)) = true := by simp; omega
      cases hx : nuB (s[f].toNat : Int)
      · as_aux_lemma =>
        go_wp2_with (first
          | (go_at_call 15; refine (digit_any _ _).mono ?_; rintro e w2 ⟨rfl, rfl⟩))
        go_ret
        exact ⟨f, rfl, haf, hf, HD.out, fun hh => by have := HG.out.2 hh; simp [nuB] at hx; exact hx this, rfl⟩
      · as_aux_lemma =>
        go_wp2_with (first
          | (go_at_call 15; refine (digit_any _ _).mono ?_; rintro e w2 ⟨rfl, rfl⟩))
        have hk' := HK.out
        have hdg : Dg (ch s f) := HG.out.1 (by simpa [nuB] using hx)
        go_roundg (gk - 1)
        case measure => omega
        case rel => exact ⟨f + 1, by go_num, by omega, by omega, by omega, fun k h1 h2 => by
          by_cases hkf : k < f
          · exact HD.out k h1 hkf
          · rw [show k = f by omega]; exact hdg, rfl⟩
    · have hd : decide ((f : Int) < (s.size : Int)) = false := by simp; omega
      have HN := Lib.hid (not_dg_end s f (by omega))
      go_wp2_with fail
      go_ret
      exact ⟨f, rfl, haf, hf, HD.out, HN.out, rfl⟩

/-- The end of the blanks at a place. -/
def BlanksP (s : ByteArray) (a : Nat) (w : World) (e : Ending) (w' : World) : Prop :=
  ∃ f : Nat, e = .returned (.int .i64 f) ∧ a ≤ f ∧ f ≤ s.size ∧ (∀ k, a ≤ k → k < f → Bl (ch s k)) ∧ ¬ Bl (ch s f) ∧ w = w'

theorem not_bl_end (s : ByteArray) (k : Nat) (h : s.size ≤ k) : ¬ Bl (ch s k) := by rw [ch_out s k h]; unfold Bl; omega

theorem allBl {c : Nat → Nat} {a f : Nat} (h : ∀ k, a ≤ k → k < f → Bl (c k)) (hf : Bl (c f)) : ∀ k, a ≤ k → k < f + 1 → Bl (c k) := by
  intro k h1 h2
  by_cases hkf : k < f
  · exact h k h1 hkf
  · rw [show k = f by omega]; exact hf

set_option maxRecDepth 100000 in
set_option maxHeartbeats 3200000 in
theorem blanks_any (B b : Nat) (s : ByteArray) (p : Nat) (st : Int) (wd : Bool) (n m : Nat) (w : World) (h : SpI B b s p st wd n m w) (a : Nat) (ha : a ≤ s.size) :
    Calls Tryz.prog 41 #[.pointer (some ⟨b, 0, none⟩), .int .i64 a] w (BlanksP s a w) := by
  obtain ⟨c0, c1, c2, c5, fz⟩ := h.cells
  obtain ⟨hp, hs⟩ := h.bounds
  have hlt := h.lt
  clear h c1 c2 c5 fz
  go_enter Tryz.func41, Tryz.ntmps41
  go_wp2_with fail
  go_loopg [1] (s.size - a) (fun k x1 wr => ∃ f : Nat, x1 = .int .i64 f ∧ a ≤ f ∧ f ≤ s.size ∧ s.size - f ≤ k ∧ (∀ k, a ≤ k → k < f → Bl (ch s k)) ∧ wr = w)
  case atStart => exact ⟨a, rfl, Nat.le_refl _, ha, Nat.le_refl _, fun k h1 h2 => by omega, rfl⟩
  case round =>
    obtain ⟨f, rfl, haf, hf, hk, hD, rfl⟩ := hrel
    have HD := Lib.hid hD
    have HK := Lib.hid hk
    clear hD hk
    by_cases hlt' : f < s.size
    · have i0 : (0 : Int) ≤ (f : Int) := by omega
      have hd : decide ((f : Int) < (s.size : Int)) = true := by simp; omega
      have hcf := ch_in s f hlt'
      by_cases h32 : s[f].toNat = 32
      · as_aux_lemma =>
        have hbl : Bl (ch s f) := by rw [hcf, h32]; unfold Bl; omega
        have HB := Lib.hid hbl
        clear hbl hcf
        have x32 : ((s[f].toNat : Int) == 32) = true := by rw [h32]; rfl
        clear h32
        go_wp2_with fail
        have hk' := HK.out
        go_roundg (gk - 1)
        case measure => omega
        case rel => exact ⟨f + 1, by go_num, by omega, by omega, by omega, allBl HD.out HB.out, rfl⟩
      · have x32 : ((s[f].toNat : Int) == 32) = false := by simp; omega
        by_cases h9 : s[f].toNat = 9
        · as_aux_lemma =>
          have hbl : Bl (ch s f) := by rw [hcf, h9]; unfold Bl; omega
          have HB := Lib.hid hbl
          have x9 : ((s[f].toNat : Int) == 9) = true := by rw [h9]; rfl
          clear hbl hcf h9 h32
          go_wp2_with fail
          have hk' := HK.out
          go_roundg (gk - 1)
          case measure => omega
          case rel => exact ⟨f + 1, by go_num, by omega, by omega, by omega, allBl HD.out HB.out, rfl⟩
        · as_aux_lemma =>
          have x9 : ((s[f].toNat : Int) == 9) = false := by simp; omega
          have hbl : ¬ Bl (ch s f) := by rw [hcf]; unfold Bl; omega
          have HB := Lib.hid hbl
          clear hbl hcf h9 h32
          go_wp2_with fail
          go_ret
          exact ⟨f, rfl, haf, hf, HD.out, HB.out, rfl⟩
    · have hd : decide ((f : Int) < (s.size : Int)) = false := by simp; omega
      have HN := Lib.hid (not_bl_end s f (by omega))
      go_wp2_with fail
      go_ret
      exact ⟨f, rfl, haf, hf, HD.out, HN.out, rfl⟩
end Go.Proofs.YtjjmgnllhihoeaaGreatFmt

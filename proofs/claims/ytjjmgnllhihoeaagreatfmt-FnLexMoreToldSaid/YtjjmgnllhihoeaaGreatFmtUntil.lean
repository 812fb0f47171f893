/- The rest of a line, and the white space behind it. -/
import Derived.Test.YtjjmgnllhihoeaaGreatFmtTrunc
set_option linter.unusedSimpArgs false
set_option linter.unusedVariables false
namespace Go.Proofs.YtjjmgnllhihoeaaGreatFmt
open Go.RowKit
attribute [local go_sem ↓] Go.wp_at_zero Go.wp_at_succ

/-- A text, blanks, an indent; the place is behind the white space behind j. -/
def UntilP (B b : Nat) (t : ByteArray) (j ts n m : Nat) (w : World) (e : Ending) (w' : World) : Prop :=
  ∃ (p' : Nat) (s : ByteArray) (bl ind : Int), e = .returned (.tuple #[.string s, .int .i64 bl, .int .i64 ind]) ∧ LexI B b t p' ts n m w' ∧ j ≤ p' ∧ (∀ k, j ≤ k → k < p' → Ws (ch t k)) ∧ ¬ Ws (ch t p') ∧ Below B w w' ∧ s.size ≤ 1000000

set_option maxRecDepth 100000 in
set_option maxHeartbeats 6400000 in
theorem until_any (B b : Nat) (t : ByteArray) (p j ts n m : Nat) (w : World) (h : LexI B b t p ts n m w) (hpj : p ≤ j) (hj : ∀ k, p ≤ k → k < j → ch t k ≠ 10 ∧ ch t k ≠ 256) (hend : ch t j = 10 ∨ ch t j = 256) :
    Calls Tryz.prog 60 #[.pointer (some ⟨b, 0, none⟩)] w (UntilP B b t j ts n m w) := by
  have H0 := Lib.hid (LB.fresh h)
  have hBw := h.baseW
  have hps := h.bounds.2
  have HJ := Lib.hid hj
  have HE := Lib.hid hend
  have hjs : j ≤ t.size := by
    rcases Nat.lt_or_ge t.size j with h1 | h1
    · have := (hj t.size hps.1 h1).2
      rw [ch_out t t.size (Nat.le_refl _)] at this
      omega
    · exact h1
  have hstep : ∀ q, q < j → nx t q ≤ j := by
    intro q hq
    rcases hend with h1 | h1
    · exact nx_before hq (by omega)
    · have : j = t.size := by
        rcases Nat.lt_or_ge j t.size with h2 | h2
        · have := ch_lt t j h2; omega
        · omega
      rw [this]; exact (nx_le t q (by omega)).2
  have HS := Lib.hid hstep
  clear h hj hend hstep
  have H1 : Below B w (w.alloc (.cells #[.slice none 0 0, .int .i64 0, .int .i8 0] 89)) := (Below.refl B w).alloc hBw _
  go_enter Tryz.func60, Tryz.ntmps60
  go_wp2_with (go_at_call 26; refine (peek_buf H0.out).mono ?_; rintro e w1 ⟨rfl, hL1, hb1⟩)
  have H2 := H1.trans hb1
  generalize w.heap.size = q at hL1 ⊢
  go_loopg [6, 7] (j - p) (fun k x6 x7 wr => ∃ (p' L : Nat) (acc : List UInt8), x6 = .int .i64 L ∧ x7 = .int .i32 (rv t p') ∧ LB B b t p' ts n m q acc wr ∧ Below B w wr ∧ L ≤ acc.length ∧ acc.length ≤ 4 * (p' - p) ∧ j - p' ≤ k ∧ p ≤ p' ∧ p' ≤ j)
  case atStart => exact ⟨p, 0, [], rfl, rfl, hL1, H2, Nat.le_refl _, by simp, Nat.le_refl _, Nat.le_refl _, hpj⟩
  case round =>
    clear H0 H1 H2 hL1 hb1
    obtain ⟨p', L, acc, rfl, rfl, hL, hB, hLa, hl, hk, hpp, hpj'⟩ := hrel
    have HL := Lib.hid hL
    have HB := Lib.hid hB
    have HK := Lib.hid hk
    clear hk hL hB
    by_cases hlt : p' < j
    · have hn1 := nx_lt t p' (by omega)
      have hn2 := HS.out p' hlt
      have hr := rv_range t p'
      have hr1 : rv t p' ≠ -1 := by
        by_cases h128 : ch t p' < 128
        · rw [(rv_low t p' h128).1]; omega
        · have := (rv_high t p' (by omega) (by omega)).1; omega
      have hr10 : rv t p' ≠ 10 := fun h => (HJ.out p' hpp hlt).1 ((rv_eq t p' 10 (by omega)).1 h)
      generalize hrr : rv t p' = r at hr hr1 hr10 ⊢
      have HR := Lib.hid hrr
      clear hrr
      have x1 : (r != -1) = true := by simp; exact hr1
      have x10 : (r != 10) = true := by simp; exact hr10
      clear hr1 hr10
      cases hw : hwB r
      all_goals
        as_aux_lemma =>
          go_wp2_with (first
            | (go_at_call 27; refine (next_buf HL.out).mono ?_; rintro e w2 ⟨rfl, hL2, hb2⟩)
            | (go_at_call 51; refine (write_buf hL2 r (by omega) (by omega) (by omega)).mono ?_; rintro e w3 ⟨⟨kk, rfl⟩, hL3, hb3⟩)
            | (go_at_call 70; refine (isHW_any _ _).mono ?_; rintro e w5 ⟨rfl, rfl⟩)
            | (go_at_call 77; refine (len_buf hL3).mono ?_; rintro e w4 ⟨rfl, hL3, hb4⟩; have hb3 := hb3.trans hb4)
            | (go_at_call 26; refine (peek_buf hL3).mono ?_; rintro e w6 ⟨rfl, hL6, hb6⟩))
          have hk' := HK.out
          have hen := enc_len r
          go_roundg (gk - 1)
          case measure => omega
          case rel =>
            refine ⟨nx t p', _, _, rfl, rfl, hL6, ((HB.out.trans hb2).trans hb3).trans hb6, ?_, by simp; omega, by omega, by omega, by omega⟩
            first
              | exact Nat.le_refl _
              | (simp; done)
              | (simp; omega)
    · obtain rfl : j = p' := by omega
      rcases HE.out with h10 | h256
      · as_aux_lemma =>
        rw [(rv_eq t j 10 (by omega)).2 h10]
        clear h10
        go_wp2_with (first
            | (go_at_call 78; refine (trunc_buf HL.out L hLa (by omega)).mono ?_; rintro e w2 ⟨rfl, hL2, hb2⟩)
            | (go_at_call 52; refine (string_buf hL2).mono ?_; rintro e w3 ⟨rfl, hL3, hb3⟩)
            | (go_at_call 25; refine (lexWhite_any B b t j ts n m _ hL3.1).mono ?_; rintro e w4 ⟨p2, nl, ind, rfl, hL4, hg4, hp4, hw4, hn4⟩))
        all_goals
          have hbb := ((HB.out.trans hb2).trans hb3).trans (hL3.belowN hg4)
          refine bodyPost_ret (v := .tuple #[_, _, _]) (by simp [results, Tryz.results60, go_sem]; exact ⟨rfl, rfl, rfl⟩) rfl ?_
          exact ⟨p2, _, _, _, rfl, hL4, hp4, hw4, hn4, hbb, by simp [ByteArray.size]; omega⟩
      · as_aux_lemma =>
        have hje : t.size ≤ j := by
          rcases Nat.lt_or_ge j t.size with h2 | h2
          · have := ch_lt t j h2; omega
          · exact h2
        rw [(rv_end t j hje).1]
        clear h256 hje
        go_wp2_with (first
            | (go_at_call 78; refine (trunc_buf HL.out L hLa (by omega)).mono ?_; rintro e w2 ⟨rfl, hL2, hb2⟩)
            | (go_at_call 52; refine (string_buf hL2).mono ?_; rintro e w3 ⟨rfl, hL3, hb3⟩)
            | (go_at_call 25; refine (lexWhite_any B b t j ts n m _ hL3.1).mono ?_; rintro e w4 ⟨p2, nl, ind, rfl, hL4, hg4, hp4, hw4, hn4⟩))
        all_goals
          have hbb := ((HB.out.trans hb2).trans hb3).trans (hL3.belowN hg4)
          refine bodyPost_ret (v := .tuple #[_, _, _]) (by simp [results, Tryz.results60, go_sem]; exact ⟨rfl, rfl, rfl⟩) rfl ?_
          exact ⟨p2, _, _, _, rfl, hL4, hp4, hw4, hn4, hbb, by simp [ByteArray.size]; omega⟩

end Go.Proofs.YtjjmgnllhihoeaaGreatFmt

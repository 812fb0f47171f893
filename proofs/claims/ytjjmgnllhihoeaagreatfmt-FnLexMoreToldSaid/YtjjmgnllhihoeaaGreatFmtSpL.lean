/- The reference's Lex, given what one step of it comes to. -/
import Derived.Test.YtjjmgnllhihoeaaGreatFmtSpU
set_option linter.unusedSimpArgs false
set_option linter.unusedVariables false
namespace Go.Proofs.YtjjmgnllhihoeaaGreatFmt
open Go.RowKit
attribute [local go_sem ↓] Go.wp_at_zero Go.wp_at_succ

/-- What one step is asked to come to. -/
def OneAll : Prop := ∀ (B b : Nat) (s : ByteArray) (p : Nat) (wd : Bool) (n m : Nat) (w : World), SpI B b s p 1 wd n m w → n ≤ 200000 → m ≤ 200000 → p < s.size → Calls Tryz.prog 7 #[.pointer (some ⟨b, 0, none⟩)] w (OneP B b s p wd n m w)

/-- A lexer in new memory; if its state is fine and nothing is wound, the text is cut into pieces of as many tokens. -/
def SpecP (s : ByteArray) (w : World) (e : Ending) (w' : World) : Prop :=
  ∃ (b p : Nat) (st : Int) (wd : Bool) (n m : Nat), e = .returned (.pointer (some ⟨b, 0, none⟩)) ∧ SpI w.heap.size b s p st wd n m w' ∧ Below w.heap.size w w' ∧ n ≤ 200000 ∧ (st = 1 → wd = false → Chain (ch s) 0 s.size n)

set_option maxRecDepth 100000 in
set_option maxHeartbeats 3200000 in
theorem lexS_of (hone : OneAll) (s : ByteArray) (w : World) (hs : s.size ≤ 2000) : Calls Tryz.prog 4 #[.string s] w (SpecP s w) := by
  have HO := Lib.hid hone
  clear hone
  have h0 : SpI w.heap.size w.heap.size s 0 1 false 0 0 (w.alloc (.cells (spCells s 0 1 (.slice none 0 0) (.slice none 0 0) false false) 27)) :=
    ⟨.slice none 0 0, .slice none 0 0, false, [], [], heap_alloc_new w _, World.ownsRow_nil _ _ _ _, World.ownsRow_nil _ _ _ _, by simp [Value.ownBlock], by simp [Value.ownBlock], .inl rfl, Nat.le_refl _, Nat.zero_le _, by omega⟩
  have H0 := Lib.hid h0
  have HB0 := Lib.hid ((Below.refl _ w).alloc (Nat.le_refl _) (.cells (spCells s 0 1 (.slice none 0 0) (.slice none 0 0) false false) 27))
  have hd4 : decide (40000 < (s.size : Int)) = false := by simp; omega
  clear h0
  go_enter Tryz.func4, Tryz.ntmps4
  go_upto_if 14 with (go_at_call 6; refine (utf_any s _ (by omega)).mono ?_; rintro e w1 ⟨x, rfl, hb1⟩)
  have H1 := Lib.hid (H0.out.old hb1)
  have HB1 := Lib.hid (HB0.out.trans (hb1.mono (by simp)))
  obtain ⟨c0, c1, c2, _, fz⟩ := H1.out.cells
  have fz2 := fz 2
  clear hb1 H0 HB0 c0 c1 fz
  go_cut [3] (fun s3 wx => s3 = .pointer (some ⟨w.heap.size, 0, none⟩) ∧ ∃ st : Int, SpI w.heap.size w.heap.size s 0 st false 0 0 wx ∧ Below w.heap.size w wx)
  case first =>
    cases x
    · as_aux_lemma =>
      go_wp2_with fail
      go_meet
      exact ⟨rfl, 0, H1.out.putSt 0, HB1.out.setCell (Nat.le_refl _) _⟩
    · as_aux_lemma =>
      go_wp2_with fail
      go_meet
      exact ⟨rfl, 1, H1.out, HB1.out⟩
  case rest =>
    obtain ⟨rfl, st, hL, hBw⟩ := hcut
    clear c2 fz2 H1 HB1
    go_wp2_with fail
    go_loopg [18] s.size (fun k x18 wr => ∃ (p : Nat) (st : Int) (wd : Bool) (n m : Nat), SpI w.heap.size w.heap.size s p st wd n m wr ∧ Below w.heap.size w wr ∧ n ≤ 5000 ∧ (st = 1 → n ≤ p ∧ m ≤ p ∧ s.size - p ≤ k ∧ (wd = false → Chain (ch s) 0 p n)))
    case atStart => exact ⟨0, st, false, 0, 0, hL, hBw, by omega, fun _ => ⟨Nat.le_refl _, Nat.le_refl _, Nat.le_refl _, fun _ => Chain.nil 0⟩⟩
    case round =>
      clear hL hBw
      obtain ⟨p, st, wd, n, m, hL, hB, hn, h1⟩ := hrel
      obtain ⟨c0, c1, c2, _⟩ := hL.cells
      have hp := hL.bounds.1
      have HL := Lib.hid hL
      have HB := Lib.hid hB
      have H1 := Lib.hid h1
      clear hL hB h1
      by_cases hlt : p < s.size
      · have hd : decide ((p : Int) < (s.size : Int)) = true := by simp; omega
        by_cases hst : st = 1
        · subst hst
          obtain ⟨k1, k2, k3, k4⟩ := H1.out rfl
          have HK := Lib.hid k4
          clear k4
          as_aux_lemma =>
          go_wp2_with (go_at_call 7; refine (HO.out _ _ s p wd n m _ HL.out (by omega) (by omega) hlt).mono ?_; rintro e w2 ⟨rfl, hb2, p', st', wd', n', m', hL2, hn2, hm2, hwd, hfin⟩; have HF := Lib.hid hfin; have HW := Lib.hid hwd; clear hfin hwd)
          go_roundg (gk - 1)
          case measure => omega
          case rel => exact ⟨p', st', wd', n', m', hL2, HB.out.trans hb2, by omega, fun h => by
            obtain ⟨q1, q2⟩ := HF.out h
            have hb' := hL2.bounds.1
            refine ⟨by omega, by omega, by omega, fun hf => ?_⟩
            have hwf : wd = false := by
              cases hw : wd with
              | false => rfl
              | true => have := HW.out hw; rw [hf] at this; cases this
            obtain ⟨d, hd', hpc⟩ := q2 hf
            rw [hd']
            exact (HK.out hwf).snoc hpc⟩
        · as_aux_lemma =>
          have x1 : ((st : Int) == 1) = false := by simpa using hst
          have HS := Lib.hid hst
          clear hst
          go_wp2_with fail
          go_ret
          exact ⟨_, p, st, wd, n, m, rfl, HL.out, HB.out, by omega, fun h => absurd h HS.out⟩
      · as_aux_lemma =>
        have hd : decide ((p : Int) < (s.size : Int)) = false := by simp; omega
        go_wp2_with fail
        go_ret
        exact ⟨_, p, st, wd, n, m, rfl, HL.out, HB.out, by omega, fun h hw => by
          have h5 := (H1.out h).2.2.2 hw
          rw [show p = s.size by omega] at h5
          exact h5⟩
end Go.Proofs.YtjjmgnllhihoeaaGreatFmt

/- The reference's lexer: a number. -/
import Derived.Test.YtjjmgnllhihoeaaGreatFmtSpF
set_option linter.unusedSimpArgs false
set_option linter.unusedVariables false
namespace Go.Proofs.YtjjmgnllhihoeaaGreatFmt
open Go.RowKit
attribute [local go_sem ↓] Go.wp_at_zero Go.wp_at_succ

/-- The digits ahead of a point, from p to a. -/
def IntP (c : Nat → Nat) (p a : Nat) : Prop := (c p = 48 ∧ a = p + 1) ∨ (49 ≤ c p ∧ c p ≤ 57 ∧ p + 1 ≤ a ∧ Digs c (p + 1) a ∧ ¬ Dg (c a))
/-- What stands behind a point, from a to f. -/
def FracP (c : Nat → Nat) (a f : Nat) : Prop := (c a = 46 ∧ Dg (c (a + 1)) ∧ a + 2 ≤ f ∧ Digs c (a + 2) f ∧ ¬ Dg (c f)) ∨ (f = a ∧ ¬ (c a = 46 ∧ Dg (c (a + 1))))
def ExpD (c : Nat → Nat) (p j : Nat) : Prop := (Dg (c p) ∧ p + 1 ≤ j ∧ Digs c (p + 1) j) ∨ ((c p = 43 ∨ c p = 45) ∧ Dg (c (p + 1)) ∧ p + 2 ≤ j ∧ Digs c (p + 2) j)
/-- The exponent, from f to j. -/
def ExpP (c : Nat → Nat) (f j : Nat) : Prop := ((c f = 101 ∨ c f = 69) ∧ ExpD c (f + 1) j) ∨ (j = f ∧ ¬ (c f = 101 ∨ c f = 69))

theorem num_of {c : Nat → Nat} {p a f j : Nat} (h1 : IntP c p a) (h2 : FracP c a f) (h3 : ExpP c f j) (h4 : EndN c j) : Num c p j := by
  have hX : TailX c f j := by
    rcases h3 with ⟨he, h3⟩ | ⟨rfl, _⟩
    · refine .inl ⟨he, ?_⟩
      rcases h3 with ⟨g1, g2, g3⟩ | ⟨g1, g2, g3, g4⟩
      · exact .inl ⟨g1, g2, g3, h4⟩
      · exact .inr ⟨g1, g2, g3, g4, h4⟩
    · exact .inr ⟨rfl, h4⟩
  have hD : TailD c a j := by
    rcases h2 with ⟨g1, g2, g3, g4, g5⟩ | ⟨rfl, _⟩
    · exact .inl ⟨g1, g2, f, g3, g4, g5, hX⟩
    · refine .inr ⟨?_, hX⟩
      rcases hX with ⟨g, _⟩ | ⟨rfl, g⟩
      · omega
      · exact g.2.2
  rcases h1 with ⟨g1, rfl⟩ | ⟨g1, g2, g3, g4, g5⟩
  · exact .inl ⟨g1, hD⟩
  · exact .inr ⟨g1, g2, a, g3, g4, g5, hD⟩

def dotB (s : ByteArray) (a : Nat) : Bool := decide (ch s a = 46 ∧ (48 ≤ ch s (a + 1) ∧ ch s (a + 1) ≤ 57))
def expB (s : ByteArray) (f : Nat) : Bool := decide (ch s f = 101 ∨ ch s f = 69)
def sgnB (s : ByteArray) (k : Nat) : Bool := decide (ch s k = 43 ∨ ch s k = 45)
def ndgB (s : ByteArray) (k : Nat) : Bool := decide (¬ (48 ≤ ch s k ∧ ch s k ≤ 57))
def badB (s : ByteArray) (j : Nat) : Bool := decide (ch s j = 46 ∨ ((ch s j = 95 ∨ (97 ≤ ch s j ∧ ch s j ≤ 122) ∨ (65 ≤ ch s j ∧ ch s j ≤ 90)) ∨ (48 ≤ ch s j ∧ ch s j ≤ 57)))

theorem nuB_byte {s : ByteArray} {k : Nat} (h : k < s.size) (x : Bool) (hx : decide (48 ≤ ch s k ∧ ch s k ≤ 57) = x) : nuB (s[k].toNat : Int) = x := by
  rw [← hx, ch_in s k h, Bool.eq_iff_iff]
  unfold nuB
  rw [decide_eq_true_iff, decide_eq_true_iff]
  unfold nuP; omega
theorem ltB_byte {s : ByteArray} {k : Nat} (h : k < s.size) (x : Bool) (hx : decide (ch s k = 95 ∨ (97 ≤ ch s k ∧ ch s k ≤ 122) ∨ (65 ≤ ch s k ∧ ch s k ≤ 90)) = x) : ltB (s[k].toNat : Int) = x := by
  rw [← hx, ch_in s k h, Bool.eq_iff_iff]
  unfold ltB
  rw [decide_eq_true_iff, decide_eq_true_iff]
  unfold ltP; omega
theorem beq_byte {s : ByteArray} {k : Nat} (h : k < s.size) (v : Nat) (x : Bool) (hx : decide (ch s k = v) = x) : ((s[k].toNat : Int) == (v : Int)) = x := by
  rw [← hx, ch_in s k h, Bool.eq_iff_iff, beq_iff_eq, decide_eq_true_iff]; omega

set_option maxRecDepth 100000 in
set_option maxHeartbeats 12800000 in
theorem number_any (B b : Nat) (s : ByteArray) (p : Nat) (wd : Bool) (n m : Nat) (w : World) (h : SpI B b s p 1 wd n m w) (hn : n ≤ 200000) (h1 : Dg (ch s p)) :
    Calls Tryz.prog 16 #[.pointer (some ⟨b, 0, none⟩)] w (OneP B b s p wd n m w) := by
  obtain ⟨c0, c1, c2, c5, fz⟩ := h.cells
  obtain ⟨hp, hs⟩ := h.bounds
  have hps : p < s.size := ch_ne (by unfold Dg at h1; omega)
  have H1 := Lib.hid h1
  have HL := Lib.hid h
  have i0 : (0 : Int) ≤ (p : Int) := by omega
  clear h c2 c5 fz h1
  go_enter Tryz.func16, Tryz.ntmps16
  go_wp2_with (go_at_call 45; refine (digits_any B b s p 1 wd n m _ HL.out p hp).mono ?_; rintro e w1 ⟨f0, rfl, hf1, hf2, hf3, hf4, rfl⟩)
  have HF0 : Hid (p + 1 ≤ f0 ∧ Digs (ch s) (p + 1) f0 ∧ ¬ Dg (ch s f0)) := Lib.hid ⟨by
    rcases Nat.lt_or_ge p f0 with h | h
    · exact h
    · exact absurd (show Dg (ch s f0) from by rw [show f0 = p by omega]; exact H1.out) hf4, fun k k1 k2 => hf3 k (by omega) k2, hf4⟩
  clear hf1 hf3 hf4
  go_quiet (fail)
  have HLq := Lib.hid (HL.out.drewN nq)
  have HBq := Lib.hid (below_drewN (Below.refl B w) nq)
  clear c0 c1 HL
  generalize w.drewN nq = W1 at *
  obtain ⟨c0, c1, _⟩ := HLq.out.cells
  go_upto_if 19 with fail
  go_cut [2] (fun s2 wx => ∃ a : Nat, s2 = .int .i64 a ∧ p < a ∧ a ≤ s.size ∧ IntP (ch s) p a ∧ SpI B b s p 1 wd n m wx ∧ Below B w wx)
  case first =>
    by_cases h48 : ch s p = 48
    · as_aux_lemma =>
      have x48 : ((s[p].toNat : Int) == 48) = true := beq_byte hps 48 true (by simpa using h48)
      have HH := Lib.hid h48
      clear h48
      go_wp2_with fail
      go_meet
      exact ⟨p + 1, by go_num, by omega, by omega, .inl ⟨HH.out, rfl⟩, HLq.out, HBq.out⟩
    · as_aux_lemma =>
      have x48 : ((s[p].toNat : Int) == 48) = false := beq_byte hps 48 false (by simpa using h48)
      have HH := Lib.hid h48
      clear h48
      go_wp2_with fail
      go_meet
      exact ⟨f0, rfl, by have := HF0.out.1; omega, hf2, .inr ⟨by have := H1.out; have := HH.out; unfold Dg at this; unfold Dg at *; omega, by have := H1.out; unfold Dg at this; omega, HF0.out.1, HF0.out.2.1, HF0.out.2.2⟩, HLq.out, HBq.out⟩
  case rest =>
    obtain ⟨a, rfl, hpa, has, hI, hL, hBw⟩ := hcut
    clear c0 c1 HLq HBq
    obtain ⟨c0, c1, _⟩ := hL.cells
    have HLq := Lib.hid hL
    have HBq := Lib.hid hBw
    clear hL hBw
    have HI := Lib.hid hI
    have i1 : (0 : Int) ≤ (a : Int) := by omega
    clear hI HF0 hf2
    go_upto_region 3 with fail
    go_cut [51] (fun s51 wx => s51 = .bool (dotB s a) ∧ SpI B b s p 1 wd n m wx ∧ Below B w wx)
    case first =>
      by_cases hl : a + 1 < s.size
      · have hd : decide ((a : Int) + 1 < (s.size : Int)) = true := by simp; omega
        have hl2 : a < s.size := by omega
        by_cases h46 : ch s a = 46
        · have x46 : ((s[a].toNat : Int) == 46) = true := beq_byte hl2 46 true (by simpa using h46)
          have hdot : dotB s a = decide (48 ≤ ch s (a + 1) ∧ ch s (a + 1) ≤ 57) := by unfold dotB; rw [decide_eq_decide]; omega
          cases hx : decide (48 ≤ ch s (a + 1) ∧ ch s (a + 1) ≤ 57)
          all_goals
            have hnu := nuB_byte hl _ hx
            have HD := Lib.hid (hdot.trans hx)
            clear hx hdot h46
            as_aux_lemma =>
            go_wp2_with (first
              | (go_at_call 15; refine (digit_any _ _).mono ?_; rintro e w2 ⟨rfl, rfl⟩))
            go_meet
            exact ⟨by rw [HD.out], HLq.out, HBq.out⟩
        · as_aux_lemma =>
          have x46 : ((s[a].toNat : Int) == 46) = false := beq_byte hl2 46 false (by simpa using h46)
          have HD : Hid (dotB s a = false) := Lib.hid (by unfold dotB; simp; omega)
          clear h46
          go_wp2_with fail
          go_meet
          exact ⟨by rw [HD.out], HLq.out, HBq.out⟩
      · as_aux_lemma =>
        have hd : decide ((a : Int) + 1 < (s.size : Int)) = false := by simp; omega
        have HD : Hid (dotB s a = false) := Lib.hid (by unfold dotB; have := ch_out s (a + 1) (by omega); simp; omega)
        go_wp2_with fail
        go_meet
        exact ⟨by rw [HD.out], HLq.out, HBq.out⟩
    case rest =>
      obtain ⟨rfl, hL, hBw⟩ := hcut
      clear c0 c1 HLq HBq
      obtain ⟨c0, c1, _⟩ := hL.cells
      have HLq := Lib.hid hL
      have HBq := Lib.hid hBw
      clear hL hBw
      go_upto_if 51 with fail
      go_cut [2] (fun s2 wx => ∃ f : Nat, s2 = .int .i64 f ∧ a ≤ f ∧ f ≤ s.size ∧ FracP (ch s) a f ∧ SpI B b s p 1 wd n m wx ∧ Below B w wx)
      case first =>
        cases hx : dotB s a
        · as_aux_lemma =>
          have HX := Lib.hid hx
          go_wp2_with fail
          go_meet
          exact ⟨a, rfl, Nat.le_refl _, has, .inr ⟨rfl, fun hh => by have := HX.out; unfold dotB at this; unfold Dg at hh; simp at this; omega⟩, HLq.out, HBq.out⟩
        · as_aux_lemma =>
          have hh : ch s a = 46 ∧ Dg (ch s (a + 1)) := by unfold dotB at hx; unfold Dg; simpa using hx
          have HX := Lib.hid hh
          have hal : a + 1 < s.size := ch_ne (by have := hh.2; unfold Dg at this; omega)
          clear hh
          go_wp2_with (first
            | (go_at_call 45; refine (digits_any B b s p 1 wd n m _ HLq.out (a + 1) (by omega)).mono ?_; rintro e w1 ⟨f, rfl, hf1, hf2, hf3, hf4, rfl⟩))
          go_meet
          have hne : a + 1 ≠ f := fun e => by subst e; exact hf4 HX.out.2
          exact ⟨f, rfl, by omega, hf2, .inl ⟨HX.out.1, HX.out.2, by omega, fun k k1 k2 => hf3 k (by omega) k2, hf4⟩, HLq.out, HBq.out⟩
      case rest =>
        obtain ⟨f, rfl, haf, hfs, hF, hL, hBw⟩ := hcut
        clear c0 c1 HLq HBq
        obtain ⟨c0, c1, _⟩ := hL.cells
        have HLq := Lib.hid hL
        have HBq := Lib.hid hBw
        clear hL hBw
        have HF := Lib.hid hF
        have i2 : (0 : Int) ≤ (f : Int) := by omega
        clear hF
        go_upto_region 5 with fail
        go_cut [80] (fun s80 wx => s80 = .bool (expB s f) ∧ SpI B b s p 1 wd n m wx ∧ Below B w wx)
        case first =>
          by_cases hl : f < s.size
          · have hd : decide ((f : Int) < (s.size : Int)) = true := by simp; omega
            by_cases h101 : ch s f = 101
            · as_aux_lemma =>
              have x1 : ((s[f].toNat : Int) == 101) = true := beq_byte hl 101 true (by simpa using h101)
              have HD : Hid (expB s f = true) := Lib.hid (by unfold expB; simp; omega)
              clear h101
              go_wp2_with fail
              go_meet
              exact ⟨by rw [HD.out], HLq.out, HBq.out⟩
            · have x1 : ((s[f].toNat : Int) == 101) = false := beq_byte hl 101 false (by simpa using h101)
              by_cases h69 : ch s f = 69
              · as_aux_lemma =>
                have x2 : ((s[f].toNat : Int) == 69) = true := beq_byte hl 69 true (by simpa using h69)
                have HD : Hid (expB s f = true) := Lib.hid (by unfold expB; simp; omega)
                clear h101 h69
                go_wp2_with fail
                go_meet
                exact ⟨by rw [HD.out], HLq.out, HBq.out⟩
              · as_aux_lemma =>
                have x2 : ((s[f].toNat : Int) == 69) = false := beq_byte hl 69 false (by simpa using h69)
                have HD : Hid (expB s f = false) := Lib.hid (by unfold expB; simp; omega)
                clear h101 h69
                go_wp2_with fail
                go_meet
                exact ⟨by rw [HD.out], HLq.out, HBq.out⟩
          · as_aux_lemma =>
            have hd : decide ((f : Int) < (s.size : Int)) = false := by simp; omega
            have HD : Hid (expB s f = false) := Lib.hid (by unfold expB; have := ch_out s f (by omega); simp; omega)
            go_wp2_with fail
            go_meet
            exact ⟨by rw [HD.out], HLq.out, HBq.out⟩
        case rest =>
          obtain ⟨rfl, hL, hBw⟩ := hcut
          clear c0 c1 HLq HBq
          obtain ⟨c0, c1, _⟩ := hL.cells
          have HLq := Lib.hid hL
          have HBq := Lib.hid hBw
          clear hL hBw
          go_upto_if 80 with fail
          go_cut [2] (fun s2 wx => ∃ j : Nat, s2 = .int .i64 j ∧ f ≤ j ∧ j ≤ s.size ∧ ExpP (ch s) f j ∧ SpI B b s p 1 wd n m wx ∧ Below B w wx)
          case first =>
            cases hx : expB s f
            · as_aux_lemma =>
              have HX := Lib.hid hx
              go_wp2_with fail
              go_meet
              exact ⟨f, rfl, Nat.le_refl _, hfs, .inr ⟨rfl, fun hh => by have := HX.out; unfold expB at this; simp at this; omega⟩, HLq.out, HBq.out⟩
            · have hh : ch s f = 101 ∨ ch s f = 69 := by unfold expB at hx; simpa using hx
              have HX := Lib.hid hh
              have hfl : f < s.size := ch_ne (by omega)
              clear hh
              obtain ⟨k0, hk0⟩ : ∃ k0, k0 = f + 1 := ⟨_, rfl⟩
              have HK0 := Lib.hid hk0
              have hk0f : k0 ≤ s.size := by omega
              have hfk0 : f < k0 := by omega
              have ek0 : (f : Int) + 1 = (k0 : Int) := by omega
              have i4 : (0 : Int) ≤ (k0 : Int) := by omega
              clear hk0
              by_cases hl0 : k0 < s.size
              · have hd0 : decide ((k0 : Int) < (s.size : Int)) = true := by simp; omega
                have hd0' : decide ((s.size : Int) ≤ (k0 : Int)) = false := by simp; omega
                by_cases hsg : ch s k0 = 43 ∨ ch s k0 = 45
                · have HSg := Lib.hid hsg
                  obtain ⟨k1, hk1⟩ : ∃ k1, k1 = k0 + 1 := ⟨_, rfl⟩
                  have HK1 := Lib.hid hk1
                  have hk1s : k1 ≤ s.size := by omega
                  have ek1 : (k0 : Int) + 1 = (k1 : Int) := by omega
                  have i5 : (0 : Int) ≤ (k1 : Int) := by omega
                  clear hk1
                  by_cases hl1 : k1 < s.size
                  · have hd1' : decide ((s.size : Int) ≤ (k1 : Int)) = false := by simp; omega
                    rcases hsg with hsg | hsg
                    · have x1 : ((s[k0].toNat : Int) == 43) = true := beq_byte hl0 43 true (by simpa using hsg)
                      clear hsg
                      by_cases hdg : Dg (ch s k1)
                      · have hnu := nuB_byte (x := true) hl1 (by unfold Dg at hdg; simpa using hdg)
                        have HD := Lib.hid hdg
                        clear hdg
                        as_aux_lemma =>
                        go_wp2_with (first
                          | (go_at_call 15; refine (digit_any _ _).mono ?_; rintro e w2 ⟨rfl, rfl⟩)
                          | (go_at_call 45; refine (digits_any B b s p 1 wd n m _ HLq.out k1 (by omega)).mono ?_; rintro e w1 ⟨j, rfl, hf1, hf2, hf3, hf4, rfl⟩))
                        go_meet
                        have hkf := HK0.out
                        have hjk : k1 < j := by
                          rcases Nat.lt_or_ge k1 j with h | h
                          · exact h
                          · exact absurd (show Dg (ch s j) from by rw [show j = k1 by omega]; exact HD.out) hf4
                        have hk1 := HK1.out
                        exact ⟨j, rfl, by omega, hf2, .inl ⟨HX.out, .inr ⟨by rw [← hkf]; exact HSg.out, by rw [← hkf, ← hk1]; exact HD.out, by omega, fun k a1 a2 => hf3 k (by omega) a2⟩⟩, HLq.out, HBq.out⟩
                      · have hnu := nuB_byte (x := false) hl1 (by unfold Dg at hdg; simpa using hdg)
                        clear hdg
                        as_aux_lemma =>
                        go_wp2_with (first
                          | (go_at_call 15; refine (digit_any _ _).mono ?_; rintro e w2 ⟨rfl, rfl⟩)
                          | (go_at_call 23; refine (stop_any B b s p 1 0 wd n m _ HLq.out).mono ?_; rintro e w2 ⟨rfl, hL2, hb2⟩))
                        go_end0
                        exact OneP.fell (HBq.out.trans hb2) hL2 (Nat.le_succ _) (Nat.le_succ _) (by decide)
                    · have x1 : ((s[k0].toNat : Int) == 43) = false := beq_byte hl0 43 false (by simp; omega)
                      have x2 : ((s[k0].toNat : Int) == 45) = true := beq_byte hl0 45 true (by simpa using hsg)
                      clear hsg
                      by_cases hdg : Dg (ch s k1)
                      · have hnu := nuB_byte (x := true) hl1 (by unfold Dg at hdg; simpa using hdg)
                        have HD := Lib.hid hdg
                        clear hdg
                        as_aux_lemma =>
                        go_wp2_with (first
                          | (go_at_call 15; refine (digit_any _ _).mono ?_; rintro e w2 ⟨rfl, rfl⟩)
                          | (go_at_call 45; refine (digits_any B b s p 1 wd n m _ HLq.out k1 (by omega)).mono ?_; rintro e w1 ⟨j, rfl, hf1, hf2, hf3, hf4, rfl⟩))
                        go_meet
                        have hkf := HK0.out
                        have hjk : k1 < j := by
                          rcases Nat.lt_or_ge k1 j with h | h
                          · exact h
                          · exact absurd (show Dg (ch s j) from by rw [show j = k1 by omega]; exact HD.out) hf4
                        have hk1 := HK1.out
                        exact ⟨j, rfl, by omega, hf2, .inl ⟨HX.out, .inr ⟨by rw [← hkf]; exact HSg.out, by rw [← hkf, ← hk1]; exact HD.out, by omega, fun k a1 a2 => hf3 k (by omega) a2⟩⟩, HLq.out, HBq.out⟩
                      · have hnu := nuB_byte (x := false) hl1 (by unfold Dg at hdg; simpa using hdg)
                        clear hdg
                        as_aux_lemma =>
                        go_wp2_with (first
                          | (go_at_call 15; refine (digit_any _ _).mono ?_; rintro e w2 ⟨rfl, rfl⟩)
                          | (go_at_call 23; refine (stop_any B b s p 1 0 wd n m _ HLq.out).mono ?_; rintro e w2 ⟨rfl, hL2, hb2⟩))
                        go_end0
                        exact OneP.fell (HBq.out.trans hb2) hL2 (Nat.le_succ _) (Nat.le_succ _) (by decide)
                  · have hd1' : decide ((s.size : Int) ≤ (k1 : Int)) = true := by simp; omega
                    rcases hsg with hsg | hsg
                    · have x1 : ((s[k0].toNat : Int) == 43) = true := beq_byte hl0 43 true (by simpa using hsg)
                      clear hsg
                      as_aux_lemma =>
                      go_wp2_with (first
                        | (go_at_call 15; refine (digit_any _ _).mono ?_; rintro e w2 ⟨rfl, rfl⟩)
                        | (go_at_call 23; refine (stop_any B b s p 1 0 wd n m _ HLq.out).mono ?_; rintro e w2 ⟨rfl, hL2, hb2⟩))
                      go_end0
                      exact OneP.fell (HBq.out.trans hb2) hL2 (Nat.le_succ _) (Nat.le_succ _) (by decide)
                    · have x1 : ((s[k0].toNat : Int) == 43) = false := beq_byte hl0 43 false (by simp; omega)
                      have x2 : ((s[k0].toNat : Int) == 45) = true := beq_byte hl0 45 true (by simpa using hsg)
                      clear hsg
                      as_aux_lemma =>
                      go_wp2_with (first
                        | (go_at_call 15; refine (digit_any _ _).mono ?_; rintro e w2 ⟨rfl, rfl⟩)
                        | (go_at_call 23; refine (stop_any B b s p 1 0 wd n m _ HLq.out).mono ?_; rintro e w2 ⟨rfl, hL2, hb2⟩))
                      go_end0
                      exact OneP.fell (HBq.out.trans hb2) hL2 (Nat.le_succ _) (Nat.le_succ _) (by decide)
                · have x1 : ((s[k0].toNat : Int) == 43) = false := beq_byte hl0 43 false (by simp; omega)
                  have x2 : ((s[k0].toNat : Int) == 45) = false := beq_byte hl0 45 false (by simp; omega)
                  clear hsg
                  by_cases hdg : Dg (ch s k0)
                  · have hnu := nuB_byte (x := true) hl0 (by unfold Dg at hdg; simpa using hdg)
                    have HD := Lib.hid hdg
                    clear hdg
                    as_aux_lemma =>
                    go_wp2_with (first
                      | (go_at_call 15; refine (digit_any _ _).mono ?_; rintro e w2 ⟨rfl, rfl⟩)
                      | (go_at_call 45; refine (digits_any B b s p 1 wd n m _ HLq.out k0 (by omega)).mono ?_; rintro e w1 ⟨j, rfl, hf1, hf2, hf3, hf4, rfl⟩))
                    go_meet
                    have hkf := HK0.out
                    have hjk : k0 < j := by
                      rcases Nat.lt_or_ge k0 j with h | h
                      · exact h
                      · exact absurd (show Dg (ch s j) from by rw [show j = k0 by omega]; exact HD.out) hf4
                    exact ⟨j, rfl, by omega, hf2, .inl ⟨HX.out, .inl ⟨by rw [← hkf]; exact HD.out, by omega, fun k a1 a2 => hf3 k (by omega) a2⟩⟩, HLq.out, HBq.out⟩
                  · have hnu := nuB_byte (x := false) hl0 (by unfold Dg at hdg; simpa using hdg)
                    clear hdg
                    as_aux_lemma =>
                    go_wp2_with (first
                      | (go_at_call 15; refine (digit_any _ _).mono ?_; rintro e w2 ⟨rfl, rfl⟩)
                      | (go_at_call 23; refine (stop_any B b s p 1 0 wd n m _ HLq.out).mono ?_; rintro e w2 ⟨rfl, hL2, hb2⟩))
                    go_end0
                    exact OneP.fell (HBq.out.trans hb2) hL2 (Nat.le_succ _) (Nat.le_succ _) (by decide)
              · have hd0 : decide ((k0 : Int) < (s.size : Int)) = false := by simp; omega
                have hd0' : decide ((s.size : Int) ≤ (k0 : Int)) = true := by simp; omega
                as_aux_lemma =>
                go_wp2_with (first
                  | (go_at_call 15; refine (digit_any _ _).mono ?_; rintro e w2 ⟨rfl, rfl⟩)
                  | (go_at_call 23; refine (stop_any B b s p 1 0 wd n m _ HLq.out).mono ?_; rintro e w2 ⟨rfl, hL2, hb2⟩))
                go_end0
                exact OneP.fell (HBq.out.trans hb2) hL2 (Nat.le_succ _) (Nat.le_succ _) (by decide)
          case rest =>
            obtain ⟨j, rfl, hfj, hjs, hE, hL, hBw⟩ := hcut
            clear c0 c1 HLq HBq
            obtain ⟨c0, c1, _⟩ := hL.cells
            have HLq := Lib.hid hL
            have HBq := Lib.hid hBw
            clear hL hBw
            have HE := Lib.hid hE
            have i3 : (0 : Int) ≤ (j : Int) := by omega
            clear hE
            go_upto_region 12 with fail
            go_cut [165] (fun s165 wx => s165 = .bool (badB s j) ∧ SpI B b s p 1 wd n m wx ∧ Below B w wx)
            case first =>
              by_cases hl : j < s.size
              · have hd : decide ((j : Int) < (s.size : Int)) = true := by simp; omega
                by_cases h46 : ch s j = 46
                · as_aux_lemma =>
                  have x1 : ((s[j].toNat : Int) == 46) = true := beq_byte hl 46 true (by simpa using h46)
                  have HD : Hid (badB s j = true) := Lib.hid (by unfold badB; simp; omega)
                  clear h46
                  go_wp2_with fail
                  go_meet
                  exact ⟨by rw [HD.out], HLq.out, HBq.out⟩
                · have x1 : ((s[j].toNat : Int) == 46) = false := beq_byte hl 46 false (by simpa using h46)
                  cases hy : decide (ch s j = 95 ∨ (97 ≤ ch s j ∧ ch s j ≤ 122) ∨ (65 ≤ ch s j ∧ ch s j ≤ 90))
                  · have hlb := ltB_byte hl _ hy
                    cases hz : decide (48 ≤ ch s j ∧ ch s j ≤ 57)
                    all_goals
                      have hnb := nuB_byte hl _ hz
                      have hbad : badB s j = decide (48 ≤ ch s j ∧ ch s j ≤ 57) := by
                        rw [decide_eq_false_iff_not] at hy
                        unfold badB; rw [decide_eq_decide]; omega
                      have HD := Lib.hid (hbad.trans hz)
                      clear h46 hy hz hbad
                      as_aux_lemma =>
                      go_wp2_with (first
                        | (go_at_call 17; refine (letter_any _ _).mono ?_; rintro e w2 ⟨rfl, rfl⟩)
                        | (go_at_call 15; refine (digit_any _ _).mono ?_; rintro e w2 ⟨rfl, rfl⟩))
                      go_meet
                      exact ⟨by rw [HD.out], HLq.out, HBq.out⟩
                  · as_aux_lemma =>
                    have hlb := ltB_byte hl _ hy
                    have HD : Hid (badB s j = true) := Lib.hid (by rw [decide_eq_true_iff] at hy; unfold badB; rw [decide_eq_true_iff]; exact .inr (.inl hy))
                    clear h46 hy
                    go_wp2_with (first
                        | (go_at_call 17; refine (letter_any _ _).mono ?_; rintro e w2 ⟨rfl, rfl⟩))
                    go_meet
                    exact ⟨by rw [HD.out], HLq.out, HBq.out⟩
              · as_aux_lemma =>
                have hd : decide ((j : Int) < (s.size : Int)) = false := by simp; omega
                have HD : Hid (badB s j = false) := Lib.hid (by unfold badB; have := ch_out s j (by omega); simp; omega)
                go_wp2_with fail
                go_meet
                exact ⟨by rw [HD.out], HLq.out, HBq.out⟩
            case rest =>
              obtain ⟨rfl, hL, hBw⟩ := hcut
              clear c0 c1 HLq HBq
              obtain ⟨c0, c1, _⟩ := hL.cells
              have HLq := Lib.hid hL
              have HBq := Lib.hid hBw
              clear hL hBw
              cases hx : badB s j
              · have hend : EndN (ch s) j := by
                  unfold badB at hx
                  rw [decide_eq_false_iff_not] at hx
                  unfold EndN Lt Dg; omega
                have HN := Lib.hid (num_of HI.out HF.out HE.out hend)
                clear hend
                go_wp2_with (first
                  | (go_at_call 20; refine (put_any B b s p 1 wd n m _ HLq.out hn 3 j (by omega) hjs).mono ?_; rintro e w2 ⟨rfl, hL2, hb2⟩))
                go_end0
                exact ⟨rfl, HBq.out.trans hb2, j, 1, wd, n + 1, m, hL2, Nat.le_refl _, Nat.le_succ _, id, fun _ => ⟨by omega, fun _ => ⟨1, rfl, Piece.num _ _ HN.out⟩⟩⟩
              · go_wp2_with (first
                  | (go_at_call 23; refine (stop_any B b s p 1 0 wd n m _ HLq.out).mono ?_; rintro e w2 ⟨rfl, hL2, hb2⟩))
                go_end0
                exact OneP.fell (HBq.out.trans hb2) hL2 (Nat.le_succ _) (Nat.le_succ _) (by decide)
end Go.Proofs.YtjjmgnllhihoeaaGreatFmt

/- The reference's lexer: a block of text. -/
import Derived.Test.YtjjmgnllhihoeaaGreatFmtSpV
set_option linter.unusedSimpArgs false
set_option linter.unusedVariables false
namespace Go.Proofs.YtjjmgnllhihoeaaGreatFmt
open Go.RowKit
attribute [local go_sem ↓] Go.wp_at_zero Go.wp_at_succ

theorem bl_dec (c : Nat) : Bl c ∨ ¬ Bl c := by unfold Bl; omega
theorem ex_bl (s : ByteArray) : ∀ (d a : Nat), a + d = s.size → ∃ f, a ≤ f ∧ f ≤ s.size ∧ (∀ k, a ≤ k → k < f → Bl (ch s k)) ∧ ¬ Bl (ch s f)
  | 0, a, h => ⟨a, Nat.le_refl _, by omega, fun k h1 h2 => by omega, not_bl_end s a (by omega)⟩
  | d + 1, a, h => by
    rcases bl_dec (ch s a) with hb | hb
    · obtain ⟨f, h1, h2, h3, h4⟩ := ex_bl s d (a + 1) (by omega)
      refine ⟨f, by omega, h2, fun k k1 k2 => ?_, h4⟩
      by_cases hk : k = a
      · rw [hk]; exact hb
      · exact h3 k (by omega) k2
    · exact ⟨a, Nat.le_refl _, by omega, fun k h1 h2 => by omega, hb⟩

theorem bl_uniq {c : Nat → Nat} {a f g : Nat} (h1 : a ≤ f) (h2 : ∀ k, a ≤ k → k < f → Bl (c k)) (h3 : ¬ Bl (c f)) (g1 : a ≤ g) (g2 : ∀ k, a ≤ k → k < g → Bl (c k)) (g3 : ¬ Bl (c g)) : f = g := by
  rcases Nat.lt_trichotomy f g with h | h | h
  · exact absurd (g2 f h1 h) h3
  · exact h
  · exact absurd (h2 g g1 h) g3

theorem blanks_at {B b : Nat} {s : ByteArray} {p : Nat} {st : Int} {wd : Bool} {n m : Nat} {w : World} (h : SpI B b s p st wd n m w) (a f : Nat) (h1 : a ≤ f) (h0 : f ≤ s.size) (h2 : ∀ k, a ≤ k → k < f → Bl (ch s k)) (h3 : ¬ Bl (ch s f)) :
    Calls Tryz.prog 41 #[.pointer (some ⟨b, 0, none⟩), .int .i64 a] w (fun e w' => e = .returned (.int .i64 f) ∧ w' = w) :=
  (blanks_any B b s p st wd n m w h a (by omega)).mono fun _ _ ⟨g, he, g1, _, g2, g3, hw⟩ => by
    obtain rfl := bl_uniq h1 h2 h3 g1 g2 g3
    exact ⟨he, hw.symm⟩

def fntB (s : ByteArray) : Bool := fnt s s.size 0 true false true
def crbB (s : ByteArray) : Bool := crB s s.size
theorem faint_at (s : ByteArray) (w : World) (hs : s.size ≤ 200000) : Calls Tryz.prog 42 #[.string s] w fun e w' => e = .returned (.bool (fntB s)) ∧ w' = w := faint_any s w hs
theorem within_at (s : ByteArray) (w : World) (hs : s.size ≤ 200000) : Calls Tryz.prog 43 #[.string s, .int .u8 13] w fun e w' => e = .returned (.bool (crbB s)) ∧ w' = w := within_any s w hs

theorem faint_v {s : ByteArray} (w : World) (hs : s.size ≤ 200000) {v : Bool} (hv : Hid (fntB s = v)) : Calls Tryz.prog 42 #[.string s] w fun e w' => e = .returned (.bool v) ∧ w' = w := by
  have h := faint_at s w hs
  rw [hv.out] at h
  exact h
theorem within_v {s : ByteArray} (w : World) (hs : s.size ≤ 200000) {v : Bool} (hv : Hid (crbB s = v)) : Calls Tryz.prog 43 #[.string s, .int .u8 13] w fun e w' => e = .returned (.bool v) ∧ w' = w := by
  have h := within_at s w hs
  rw [hv.out] at h
  exact h

theorem bar_at (s : ByteArray) (e : Nat) (h : e + 3 ≤ s.size) : ((s.extract e (e + 3)).toList == [124, 124, 124]) = true ↔ (ch s e = 124 ∧ ch s (e + 1) = 124 ∧ ch s (e + 2) = 124) := by
  have h5 := at_eq s ⟨#[124, 124, 124]⟩ e h
  have h6 := begB_3 s e 124 124 124
  rw [begB_iff] at h6
  have h7 : (ByteArray.mk #[124, 124, 124]).toList = [124, 124, 124] := by rw [Lib.toList_data]
  have h8 : (ByteArray.mk #[124, 124, 124]).size = 3 := rfl
  rw [h7] at h5
  rw [h8] at h5 h6
  exact h5.trans h6

/-- The start of a block: its head's end a, the first line's place q, the end r of its indent. -/
structure Head (c : Nat → Nat) (p a q : Nat) : Prop where
  le : p + 3 ≤ a
  bl : ∀ k, p + 3 ≤ k → k < a → Bl (c k)
  nl : c a = 10
  lt : a < q
  nls : ∀ k, a ≤ k → k < q → c k = 10

set_option maxRecDepth 100000 in
set_option maxHeartbeats 25600000 in
theorem block_any (B b : Nat) (s : ByteArray) (p : Nat) (wd : Bool) (n m : Nat) (w : World) (h : SpI B b s p 1 wd n m w) (hn : n ≤ 200000) (h1 : ch s p = 124) (h2 : ch s (p + 1) = 124) (h3 : ch s (p + 2) = 124) :
    Calls Tryz.prog 12 #[.pointer (some ⟨b, 0, none⟩)] w (OneP B b s p wd n m w) := by
  obtain ⟨c0, c1, c2, c5, fz⟩ := h.cells
  obtain ⟨hp, hs⟩ := h.bounds
  have hps : p + 2 < s.size := ch_ne (by omega)
  have H1 : Hid (ch s p = 124 ∧ ch s (p + 1) = 124 ∧ ch s (p + 2) = 124) := Lib.hid ⟨h1, h2, h3⟩
  have HL := Lib.hid h
  obtain ⟨p3, hp3⟩ : ∃ p3, p3 = p + 3 := ⟨_, rfl⟩
  have HP3 := Lib.hid hp3
  have ep3 : (p : Int) + 3 = (p3 : Int) := by omega
  have hp3s : p3 ≤ s.size := by omega
  have hpp3 : p < p3 := by omega
  clear h c2 c5 fz h1 h2 h3 hp3
  go_enter Tryz.func12, Tryz.ntmps12
  go_upto_region 1 with (go_at_call 41; refine (blanks_any B b s p 1 wd n m _ HL.out p3 hp3s).mono ?_; rintro e w1 ⟨a, rfl, ha1, ha2, ha3, ha4, rfl⟩)
  have i1 : (0 : Int) ≤ (a : Int) := by omega
  by_cases hal : a < s.size
  rotate_left 1
  · as_aux_lemma =>
    have hd : decide ((s.size : Int) ≤ (a : Int)) = true := by simp; omega
    clear ha3 ha4
    go_wp2_with (first
      | (go_at_call 23; refine (stop_any B b s p 1 0 wd n m _ HL.out).mono ?_; rintro e w3 ⟨rfl, hL3, hb3⟩))
    go_end0
    exact OneP.fell hb3 hL3 (Nat.le_succ _) (Nat.le_succ _) (by decide)
  have hd : decide ((s.size : Int) ≤ (a : Int)) = false := by simp; omega
  by_cases ha10 : ch s a = 10
  rotate_left 1
  · as_aux_lemma =>
    have x10 : ((s[a].toNat : Int) != 10) = true := by rw [← ch_in s a hal]; simp; omega
    clear ha3 ha4 ha10
    go_wp2_with (first
      | (go_at_call 23; refine (stop_any B b s p 1 0 wd n m _ HL.out).mono ?_; rintro e w3 ⟨rfl, hL3, hb3⟩))
    go_end0
    exact OneP.fell hb3 hL3 (Nat.le_succ _) (Nat.le_succ _) (by decide)
  have x10 : ((s[a].toNat : Int) != 10) = false := by rw [← ch_in s a hal, ha10]; rfl
  have HA3 := Lib.hid ha3
  have HA10 := Lib.hid ha10
  clear ha3 ha4 ha10
  go_upto_block 0 with fail
  clear hd x10
  go_cut [2, 3] (fun s2 s3 wx => ∃ (q0 : Nat) (o : ByteArray), s2 = .int .i64 q0 ∧ s3 = .string o ∧ o.size ≤ q0 ∧ a < q0 ∧ q0 ≤ s.size ∧ (∀ k, a ≤ k → k < q0 → ch s k = 10) ∧ wx = w)
  case first =>
    as_aux_lemma =>
    go_wp2_with fail
    go_loopg [2, 3] s.size (fun k x2 x3 wr => ∃ (f : Nat) (o : ByteArray), x2 = .int .i64 f ∧ x3 = .string o ∧ o.size ≤ f ∧ a < f ∧ f ≤ s.size ∧ s.size - f ≤ k ∧ (∀ k, a ≤ k → k < f → ch s k = 10) ∧ wr = w)
    case atStart => exact ⟨a + 1, ⟨#[]⟩, by go_num, rfl, Nat.zero_le _, by omega, by omega, by omega, fun k k1 k2 => by rw [show k = a by omega]; exact HA10.out, rfl⟩
    case round =>
      obtain ⟨f, o, rfl, rfl, hoz, hpf, hf, hk, hD, rfl⟩ := hrel
      have HD := Lib.hid hD
      have HK := Lib.hid hk
      have i2 : (0 : Int) ≤ (f : Int) := by omega
      clear hD hk
      by_cases hlt : f < s.size
      · have hd : decide ((f : Int) < (s.size : Int)) = true := by simp; omega
        by_cases h10 : ch s f = 10
        · as_aux_lemma =>
          have x10 : ((s[f].toNat : Int) == 10) = true := beq_byte hlt 10 true (by simpa using h10)
          have HT := Lib.hid h10
          have hcat : o.size + (ByteArray.mk #[10]).size ≤ 9223372036854775807 := by show o.size + 1 ≤ _; omega
          have hcat2 : o.size + 1 ≤ 9223372036854775807 := by omega
          clear h10
          go_wp2_with fail
          have hk' := HK.out
          go_roundg (gk - 1)
          case measure => omega
          case rel => exact ⟨f + 1, _, by go_num, rfl, by rw [ByteArray.size_append]; show o.size + 1 ≤ _; omega, by omega, by omega, by omega, fun k h1 h2 => by
            by_cases hkf : k < f
            · exact HD.out k h1 hkf
            · rw [show k = f by omega]; exact HT.out, rfl⟩
        · as_aux_lemma =>
          have x10 : ((s[f].toNat : Int) == 10) = false := beq_byte hlt 10 false (by simpa using h10)
          clear h10
          go_wp2_with fail
          go_meet
          exact ⟨f, o, rfl, rfl, hoz, hpf, hf, HD.out, rfl⟩
      · as_aux_lemma =>
        have hd : decide ((f : Int) < (s.size : Int)) = false := by simp; omega
        go_wp2_with fail
        go_meet
        exact ⟨f, o, rfl, rfl, hoz, hpf, hf, HD.out, rfl⟩
  case rest =>
    obtain ⟨q0, o, rfl, rfl, hoz, haq, hqs, hnl, rfl⟩ := hcut
    obtain ⟨r0, hr1, hr2, hr3, hr4⟩ := ex_bl s (s.size - q0) q0 (by omega)
    have HR : Hid ((∀ k, q0 ≤ k → k < r0 → Bl (ch s k)) ∧ ¬ Bl (ch s r0)) := Lib.hid ⟨hr3, hr4⟩
    have HNL := Lib.hid hnl
    have j1 : (0 : Int) ≤ (q0 : Int) := by omega
    have j2 : (q0 : Int) ≤ (r0 : Int) := by omega
    have j3 : (r0 : Int) ≤ (s.size : Int) := by omega
    clear hr3 hr4 hnl
    go_wp2_with fail
    go_quiet ((go_at_call 41; exact Calls.quiet_of_same (blanks_at (HL.out.drewN _) q0 r0 hr1 hr2 HR.out.1 HR.out.2)))
    have HLq := Lib.hid (HL.out.drewN nq)
    have HBq := Lib.hid (below_drewN (Below.refl B wc) nq)
    clear c0 c1 HL ep3
    generalize wc.drewN nq = W1 at *
    obtain ⟨c0, c1, _⟩ := HLq.out.cells
    by_cases hemp : r0 = q0
    · have hz : (s.extract q0 r0).toList = [] := by rw [hemp, Lib.toList_data]; simp [Lib.extract_data]
      have hz2 : (!(s.extract q0 r0).toList.isEmpty) = false := by rw [hz]; rfl
      have hz3 : (s.extract q0 r0).toList.isEmpty = true := by rw [hz]; rfl
      go_upto_region 10 with fail
      clear hz hz2 hz3
      have i4 : (0 : Int) ≤ (p : Int) := by omega
      have i5 : (p : Int) ≤ (s.size : Int) := by omega
      have hze : (s.extract p s.size).size ≤ 200000 := by rw [ByteArray.size_extract]; omega
      have hsz2 : s.size ≤ 200000 := by omega
      cases hf : fntB (s.extract p s.size)
      · have HF := Lib.hid hf
        clear hf
        cases hc : crbB s
        all_goals
          have HC := Lib.hid hc
          clear hc
          go_wp2_with fail
          go_quiet ((first | (go_at_call 42; exact Calls.quiet_of_same (faint_v _ hze HF)) | (go_at_call 43; exact Calls.quiet_of_same (within_v _ hsz2 HC))))
          have hL2 := HLq.out.drewN nq
          have hb2 := below_drewN HBq.out nq
          go_wp2_with (first
            | (go_at_call 23; refine (stop_any B b s p _ _ wd n m _ hL3).mono ?_; rintro e w4 ⟨rfl, hL4, hb4⟩; have hb3 := hb3.trans hb4)
            | (go_at_call 23; refine (stop_any B b s p 1 _ wd n m _ hL2).mono ?_; rintro e w3 ⟨rfl, hL3, hb3⟩))
          go_end0
          first
            | exact OneP.fell (hb2.trans hb3) hL4 (Nat.le_succ _) (Nat.le_succ _) (by decide)
            | exact OneP.fell (hb2.trans hb3) hL3 (Nat.le_succ _) (Nat.le_succ _) (by decide)
      · have HF := Lib.hid hf
        clear hf
        go_wp2_with fail
        go_quiet ((go_at_call 42; exact Calls.quiet_of_same (faint_v _ hze HF)))
        have hL2 := HLq.out.drewN nq
        have hb2 := below_drewN HBq.out nq
        go_wp2_with (first
          | (go_at_call 23; refine (stop_any B b s p _ _ wd n m _ hL3).mono ?_; rintro e w4 ⟨rfl, hL4, hb4⟩; have hb3 := hb3.trans hb4)
          | (go_at_call 23; refine (stop_any B b s p 1 _ wd n m _ hL2).mono ?_; rintro e w3 ⟨rfl, hL3, hb3⟩))
        go_end0
        first
          | exact OneP.fell (hb2.trans hb3) hL4 (Nat.le_succ _) (Nat.le_succ _) (by decide)
          | exact OneP.fell (hb2.trans hb3) hL3 (Nat.le_succ _) (Nat.le_succ _) (by decide)
    · have hne : (s.extract q0 r0).toList ≠ [] := by
        intro h
        have h5 := congrArg List.length h
        rw [Lib.toList_data, ← Lib.size_eq, ByteArray.size_extract] at h5
        simp at h5
        omega
      have hz2 : (!(s.extract q0 r0).toList.isEmpty) = true := by simpa using hne
      have hz3 : (s.extract q0 r0).toList.isEmpty = false := by simpa using hne
      obtain ⟨nn, hnn⟩ : ∃ nn, r0 = q0 + nn := ⟨r0 - q0, by omega⟩
      have hnn0 : 0 < nn := by omega
      have hsi : (s.extract q0 r0).size = nn := by rw [ByteArray.size_extract]; omega
      have hch : ∀ k, k < nn → ch (s.extract q0 r0) k = ch s (q0 + k) := fun k hk => ch_ext2 s q0 r0 k (by omega) hr2
      have HCH := Lib.hid hch
      have HNN := Lib.hid hnn
      generalize s.extract q0 r0 = ind at *
      clear hch hnn
      go_upto_block 2 with fail
      clear hne hz2 hz3
      go_cut [2, 3] (fun s2 s3 wx => ∃ (f : Nat) (o : ByteArray), s2 = .int .i64 f ∧ s3 = .string o ∧ q0 ≤ f ∧ f ≤ s.size ∧ (f < s.size → (∀ j, Blk (ch s) q0 nn f j → Blk (ch s) q0 nn q0 j) ∧ ch s f ≠ 10 ∧ ¬ Pre (ch s) q0 nn f) ∧ wx = W1)
      case first =>
        as_aux_lemma =>
        go_wp2_with fail
        go_loopg [2, 3] s.size (fun k x2 x3 wr => ∃ (f : Nat) (o : ByteArray), x2 = .int .i64 f ∧ x3 = .string o ∧ o.size ≤ 2 * f ∧ q0 ≤ f ∧ f ≤ s.size ∧ s.size - f ≤ k ∧ (f < s.size → ∀ j, Blk (ch s) q0 nn f j → Blk (ch s) q0 nn q0 j) ∧ wr = W1)
        case atStart => exact ⟨q0, o, rfl, rfl, by omega, Nat.le_refl _, hqs, by omega, fun _ j h => h, rfl⟩
        case round =>
          obtain ⟨f, o, rfl, rfl, hoz, hqf, hf, hk, hcon, rfl⟩ := hrel
          have HK := Lib.hid hk
          have i2 : (0 : Int) ≤ (f : Int) := by omega
          clear hk
          by_cases hlt : f < s.size
          · have hd : decide ((f : Int) < (s.size : Int)) = true := by simp; omega
            have HCon := Lib.hid (hcon hlt)
            clear hcon
            by_cases h10 : ch s f = 10
            · as_aux_lemma =>
              have x10 : ((s[f].toNat : Int) == 10) = true := beq_byte hlt 10 true (by simpa using h10)
              have HT := Lib.hid h10
              have hcat : o.size + (ByteArray.mk #[10]).size ≤ 9223372036854775807 := by show o.size + 1 ≤ _; omega
              have hcat2 : o.size + 1 ≤ 9223372036854775807 := by omega
              clear h10
              go_wp2_with fail
              have hk' := HK.out
              go_roundg (gk - 1)
              case measure => omega
              case rel => exact ⟨f + 1, _, by go_num, rfl, by rw [ByteArray.size_append]; show o.size + 1 ≤ _; omega, by omega, by omega, by omega, fun _ j hj => HCon.out j (Blk.nl _ _ HT.out hj), rfl⟩
            · have x10 : ((s[f].toNat : Int) == 10) = false := beq_byte hlt 10 false (by simpa using h10)
              have HN10 := Lib.hid h10
              obtain ⟨f2, hf2⟩ : ∃ f2, f2 = f + nn := ⟨_, rfl⟩
              have HF2 := Lib.hid hf2
              have ef2 : (f : Int) + (nn : Int) = (f2 : Int) := by omega
              clear h10
              by_cases hsh : s.size < f2
              · as_aux_lemma =>
                have dsh : decide ((s.size : Int) - (f : Int) < (nn : Int)) = true := by simp; omega
                have hnp : ¬ Pre (ch s) q0 nn f := fun hp => by
                  have h5 := hp (s.size - f) (by omega)
                  rw [show f + (s.size - f) = s.size by omega, ch_out s s.size (Nat.le_refl _)] at h5
                  have h6 := HR.out.1 (q0 + (s.size - f)) (by omega) (by have := HNN.out; omega)
                  rw [← h5] at h6
                  unfold Bl at h6; omega
                have HNP := Lib.hid hnp
                clear hnp hf2
                go_wp2_with fail
                go_meet
                exact ⟨f, o, rfl, rfl, hqf, hf, fun _ => ⟨HCon.out, HN10.out, HNP.out⟩, rfl⟩
              · have dsh : decide ((s.size : Int) - (f : Int) < (nn : Int)) = false := by simp; omega
                have k1 : (f : Int) ≤ (f2 : Int) := by omega
                have k2 : (f2 : Int) ≤ (s.size : Int) := by omega
                have hpre : ((s.extract f f2).toList == ind.toList) = true ↔ Pre (ch s) q0 nn f := by
                  have h5 : (s.extract f f2).size = nn := by rw [ByteArray.size_extract]; omega
                  rw [bytes_eq, h5, hsi]
                  constructor
                  · rintro ⟨_, h6⟩ k hk
                    rw [← HCH.out k hk, ← h6 k hk, ch_ext2 s f f2 k (by omega) (by omega)]
                  · intro h6
                    exact ⟨rfl, fun k hk => by rw [HCH.out k hk, ch_ext2 s f f2 k (by omega) (by omega)]; exact h6 k hk⟩
                have HPR := Lib.hid hpre
                have hf2s : f2 ≤ s.size := by omega
                clear hpre hsh
                cases hcmp : ((s.extract f f2).toList == ind.toList)
                · have HNP : Hid (¬ Pre (ch s) q0 nn f) := Lib.hid (fun hp => by have := HPR.out.2 hp; rw [hcmp] at this; cases this)
                  have hcmp2 : ((s.extract f f2).toList != ind.toList) = true := by rw [bne, hcmp]; rfl
                  clear hf2
                  as_aux_lemma =>
                  go_wp2_with fail
                  go_meet
                  exact ⟨f, o, rfl, rfl, hqf, hf, fun _ => ⟨HCon.out, HN10.out, HNP.out⟩, rfl⟩
                · have HP := Lib.hid (HPR.out.1 hcmp)
                  have hcmp2 : ((s.extract f f2).toList != ind.toList) = false := by rw [bne, hcmp]; rfl
                  obtain ⟨G1, hG1⟩ : ∃ G, G = gk := ⟨_, rfl⟩
                  have HG1 := Lib.hid hG1
                  have hff2 : f < f2 := by omega
                  clear hf2 hG1
                  as_aux_lemma =>
                  go_wp2_with fail
                  clear hcmp hcmp2
                  go_loopg [2, 3] s.size (fun k x2 x3 wr' => ∃ (g : Nat) (o : ByteArray), x2 = .int .i64 g ∧ x3 = .string o ∧ o.size ≤ 2 * g ∧ f2 ≤ g ∧ g ≤ s.size ∧ s.size - g ≤ k ∧ (∀ m, f2 ≤ m → m < g → ch s m ≠ 10 ∧ ch s m ≠ 256) ∧ wr' = wr)
                  case atStart => exact ⟨f2, o, rfl, rfl, by omega, Nat.le_refl _, hf2s, by omega, fun m h1 h2 => by omega, rfl⟩
                  case round =>
                    obtain ⟨g, o, rfl, rfl, hoz, hfg, hg, hk, hD, rfl⟩ := hrel
                    have HD := Lib.hid hD
                    have HK1 := Lib.hid hk
                    have i3 : (0 : Int) ≤ (g : Int) := by omega
                    clear hk hD
                    by_cases hgl : g < s.size
                    · have hdg : decide ((g : Int) < (s.size : Int)) = true := by simp; omega
                      by_cases hg10 : ch s g = 10
                      · as_aux_lemma =>
                        have y10 : ((s[g].toNat : Int) != 10) = false := by rw [← ch_in s g hgl, hg10]; rfl
                        have HT := Lib.hid hg10
                        have hcat : o.size + (ByteArray.mk #[10]).size ≤ 9223372036854775807 := by show o.size + 1 ≤ _; omega
                        have hcat2 : o.size + 1 ≤ 9223372036854775807 := by omega
                        clear hg10
                        go_wp2_with fail
                        have hk' := HK.out
                        have hg' := HG1.out
                        have hf2' := HF2.out
                        go_roundg (G1 - 1)
                        case measure => omega
                        case rel => exact ⟨g + 1, _, by go_num, rfl, by rw [ByteArray.size_append]; show o.size + 1 ≤ _; omega, by omega, by omega, by omega, fun _ j hj => HCon.out j (Blk.line _ g _ HN10.out HP.out (by omega) (fun m h1 h2 => HD.out m (by omega) h2) HT.out hj), rfl⟩
                      · as_aux_lemma =>
                        have y10 : ((s[g].toNat : Int) != 10) = true := by rw [← ch_in s g hgl]; simp; omega
                        have HT : Hid (ch s g ≠ 10 ∧ ch s g ≠ 256) := Lib.hid ⟨hg10, by have := ch_lt s g hgl; omega⟩
                        obtain ⟨g1, hg1⟩ : ∃ g1, g1 = g + 1 := ⟨_, rfl⟩
                        have HGG := Lib.hid hg1
                        have eg1 : (g : Int) + 1 = (g1 : Int) := by omega
                        have m3 : (g : Int) ≤ (g1 : Int) := by omega
                        have m4 : (g1 : Int) ≤ (s.size : Int) := by omega
                        have hex : (s.extract g g1).size ≤ 1 := by rw [ByteArray.size_extract]; omega
                        have hcat : o.size + (s.extract g g1).size ≤ 9223372036854775807 := by omega
                        clear hg10 hg1
                        go_wp2_with fail
                        have hk' := HK1.out
                        have hgg := HGG.out
                        go_roundg (gk - 1)
                        case measure => omega
                        case rel => exact ⟨g1, _, rfl, rfl, by rw [ByteArray.size_append]; omega, by omega, by omega, by omega, fun m h1 h2 => by
                          by_cases hmg : m < g
                          · exact HD.out m h1 hmg
                          · rw [show m = g by omega]; exact HT.out, rfl⟩
                    · as_aux_lemma =>
                      have hdg : decide ((g : Int) < (s.size : Int)) = false := by simp; omega
                      go_wp2_with fail
                      have hk' := HK.out
                      have hg' := HG1.out
                      go_roundg (G1 - 1)
                      case measure => omega
                      case rel => exact ⟨g, o, rfl, rfl, hoz, by omega, hg, by omega, fun h => absurd h hgl, rfl⟩
          · as_aux_lemma =>
            have hd : decide ((f : Int) < (s.size : Int)) = false := by simp; omega
            go_wp2_with fail
            go_meet
            exact ⟨f, o, rfl, rfl, hqf, hf, fun h => absurd h hlt, rfl⟩
      case rest =>
        obtain ⟨f, o, rfl, rfl, hqf, hfs, hcon, rfl⟩ := hcut
        have HCon := Lib.hid hcon
        obtain ⟨e0, he1, he2, he3, he4⟩ := ex_bl s (s.size - f) f (by omega)
        have HE : Hid ((∀ k, f ≤ k → k < e0 → Bl (ch s k)) ∧ ¬ Bl (ch s e0)) := Lib.hid ⟨he3, he4⟩
        clear hcon he3 he4
        obtain ⟨e3, he3⟩ : ∃ e3, e3 = e0 + 3 := ⟨_, rfl⟩
        have HE3 := Lib.hid he3
        have ee3 : (e0 : Int) + 3 = (e3 : Int) := by omega
        have n1 : (0 : Int) ≤ (e0 : Int) := by omega
        have n2 : (e0 : Int) ≤ (e3 : Int) := by omega
        go_upto_region 26 with (go_at_call 41; refine (blanks_at HLq.out f e0 he1 he2 HE.out.1 HE.out.2).mono ?_; rintro e w1 ⟨rfl, rfl⟩)
        have he3s' : e3 = e0 + 3 := he3
        clear he3
        by_cases hsh : s.size < e3
        · have dsh : decide ((s.size : Int) - (e0 : Int) < 3) = true := by simp; omega
          clear he3s'
          go_upto_region 27 with fail
          have i4 : (0 : Int) ≤ (p : Int) := by omega
          have i5 : (p : Int) ≤ (s.size : Int) := by omega
          have hze : (s.extract p s.size).size ≤ 200000 := by rw [ByteArray.size_extract]; omega
          have hsz2 : s.size ≤ 200000 := by omega
          cases hf : fntB (s.extract p s.size)
          · have HF := Lib.hid hf
            clear hf
            cases hc : crbB s
            all_goals
              have HC := Lib.hid hc
              clear hc
              go_wp2_with fail
              go_quiet ((first | (go_at_call 42; exact Calls.quiet_of_same (faint_v _ hze HF)) | (go_at_call 43; exact Calls.quiet_of_same (within_v _ hsz2 HC))))
              have hL2 := HLq.out.drewN nq
              have hb2 := below_drewN HBq.out nq
              go_wp2_with (first
                | (go_at_call 23; refine (stop_any B b s p _ _ wd n m _ hL3).mono ?_; rintro e w4 ⟨rfl, hL4, hb4⟩; have hb3 := hb3.trans hb4)
                | (go_at_call 23; refine (stop_any B b s p 1 _ wd n m _ hL2).mono ?_; rintro e w3 ⟨rfl, hL3, hb3⟩))
              go_end0
              first
                | exact OneP.fell (hb2.trans hb3) hL4 (Nat.le_succ _) (Nat.le_succ _) (by decide)
                | exact OneP.fell (hb2.trans hb3) hL3 (Nat.le_succ _) (Nat.le_succ _) (by decide)
          · have HF := Lib.hid hf
            clear hf
            go_wp2_with fail
            go_quiet ((go_at_call 42; exact Calls.quiet_of_same (faint_v _ hze HF)))
            have hL2 := HLq.out.drewN nq
            have hb2 := below_drewN HBq.out nq
            go_wp2_with (first
              | (go_at_call 23; refine (stop_any B b s p _ _ wd n m _ hL3).mono ?_; rintro e w4 ⟨rfl, hL4, hb4⟩; have hb3 := hb3.trans hb4)
              | (go_at_call 23; refine (stop_any B b s p 1 _ wd n m _ hL2).mono ?_; rintro e w3 ⟨rfl, hL3, hb3⟩))
            go_end0
            first
              | exact OneP.fell (hb2.trans hb3) hL4 (Nat.le_succ _) (Nat.le_succ _) (by decide)
              | exact OneP.fell (hb2.trans hb3) hL3 (Nat.le_succ _) (Nat.le_succ _) (by decide)
        · have dsh : decide ((s.size : Int) - (e0 : Int) < 3) = false := by simp; omega
          have he3s : e3 ≤ s.size := by omega
          have k2 : (e3 : Int) ≤ (s.size : Int) := by omega
          have hbar : ((s.extract e0 e3).toList == [124, 124, 124]) = true ↔ (ch s e0 = 124 ∧ ch s (e0 + 1) = 124 ∧ ch s (e0 + 2) = 124) := by
            rw [he3s']
            exact bar_at s e0 (by omega)
          cases hcmp : ((s.extract e0 e3).toList == [124, 124, 124])
          · have hcmp2 : ((s.extract e0 e3).toList != [124, 124, 124]) = true := by rw [bne, hcmp]; rfl
            clear hbar he3s'
            go_upto_region 27 with fail
            have i4 : (0 : Int) ≤ (p : Int) := by omega
            have i5 : (p : Int) ≤ (s.size : Int) := by omega
            have hze : (s.extract p s.size).size ≤ 200000 := by rw [ByteArray.size_extract]; omega
            have hsz2 : s.size ≤ 200000 := by omega
            cases hf : fntB (s.extract p s.size)
            · have HF := Lib.hid hf
              clear hf
              cases hc : crbB s
              all_goals
                have HC := Lib.hid hc
                clear hc
                go_wp2_with fail
                go_quiet ((first | (go_at_call 42; exact Calls.quiet_of_same (faint_v _ hze HF)) | (go_at_call 43; exact Calls.quiet_of_same (within_v _ hsz2 HC))))
                have hL2 := HLq.out.drewN nq
                have hb2 := below_drewN HBq.out nq
                go_wp2_with (first
                  | (go_at_call 23; refine (stop_any B b s p _ _ wd n m _ hL3).mono ?_; rintro e w4 ⟨rfl, hL4, hb4⟩; have hb3 := hb3.trans hb4)
                  | (go_at_call 23; refine (stop_any B b s p 1 _ wd n m _ hL2).mono ?_; rintro e w3 ⟨rfl, hL3, hb3⟩))
                go_end0
                first
                  | exact OneP.fell (hb2.trans hb3) hL4 (Nat.le_succ _) (Nat.le_succ _) (by decide)
                  | exact OneP.fell (hb2.trans hb3) hL3 (Nat.le_succ _) (Nat.le_succ _) (by decide)
            · have HF := Lib.hid hf
              clear hf
              go_wp2_with fail
              go_quiet ((go_at_call 42; exact Calls.quiet_of_same (faint_v _ hze HF)))
              have hL2 := HLq.out.drewN nq
              have hb2 := below_drewN HBq.out nq
              go_wp2_with (first
                | (go_at_call 23; refine (stop_any B b s p _ _ wd n m _ hL3).mono ?_; rintro e w4 ⟨rfl, hL4, hb4⟩; have hb3 := hb3.trans hb4)
                | (go_at_call 23; refine (stop_any B b s p 1 _ wd n m _ hL2).mono ?_; rintro e w3 ⟨rfl, hL3, hb3⟩))
              go_end0
              first
                | exact OneP.fell (hb2.trans hb3) hL4 (Nat.le_succ _) (Nat.le_succ _) (by decide)
                | exact OneP.fell (hb2.trans hb3) hL3 (Nat.le_succ _) (Nat.le_succ _) (by decide)
          · have hcmp2 : ((s.extract e0 e3).toList != [124, 124, 124]) = false := by rw [bne, hcmp]; rfl
            have hbars := hbar.1 hcmp
            have hpc : Piece (ch s) p e3 1 := by
              have hfl : f < s.size := by omega
              obtain ⟨g1, g2, g3⟩ := HCon.out hfl
              have hp3 := HP3.out
              have hnn := HNN.out
              have hbk := g1 _ (Blk.fin f e0 g2 g3 he1 HE.out.1 hbars.1 hbars.2.1 hbars.2.2)
              rw [he3s']
              exact Piece.block p a q0 nn (e0 + 3) H1.out.1 H1.out.2.1 H1.out.2.2 (by omega) (fun k k1 k2 => HA3.out k (by omega) k2) HA10.out haq HNL.out hnn0 (fun k k1 k2 => HR.out.1 k k1 (by omega)) (by rw [← hnn]; exact HR.out.2) hbk
            have HPc := Lib.hid hpc
            have i4 : (0 : Int) ≤ (p : Int) := by omega
            have i5 : (p : Int) ≤ (e0 : Int) := by omega
            have i6 : (e0 : Int) ≤ (s.size : Int) := by omega
            have hze : (s.extract p e0).size ≤ 200000 := by rw [ByteArray.size_extract]; omega
            clear hbar hbars hpc he3s' hsh
            go_upto_region 30 with fail
            clear hcmp hcmp2 dsh
            cases hc : crbB (s.extract p e0)
            · have HC := Lib.hid hc
              clear hc
              cases hf : fntB (s.extract p e0)
              · have HF := Lib.hid hf
                clear hf
                go_wp2_with fail
                go_quiet ((first | (go_at_call 42; exact Calls.quiet_of_same (faint_v _ hze HF)) | (go_at_call 43; exact Calls.quiet_of_same (within_v _ hze HC))))
                have hL2 := Lib.hid (HLq.out.drewN nq)
                have hb2 := Lib.hid (below_drewN HBq.out nq)
                clear c0 c1 HLq HBq
                generalize w1.drewN nq = W5 at *
                go_upto_region 32 with fail
                obtain ⟨tv, cv, co, xs, ys, h⟩ := hL2.out
                obtain ⟨i0, hi0, hz0, hz1, hz2⟩ := info_parts Tryz.info76
                obtain ⟨⟨ta, tc, rfl⟩, fa, fc, rfl⟩ := h.forms
                obtain ⟨d0, d1, d2, d3, d4, d5, d6, fz⟩ := spCells_at h.blk
                have H2 := Lib.hid h
                have hBb := h.hB
                have hBw := h.base
                have fz3 := fz 3
                clear h d0 d1 d2 d4 d5 d6 fz
                go_wp2_with (first
                  | (at_builtin; refine wpList_append_lies _ (by rfl) _ _ _ (by rfl) B 76 i0 _ 3 32 Tryz.underlying24 hi0 hz0 hz1 hz2 rfl (by omega) (.slice ta n tc) n xs (by rfl) (H2.out.tok.alloc _) ⟨W5.heap.size, 0, none⟩ 1 1 [.int .i64 4, .string o, .int .i64 2] (by rfl) (by rfl) (World.news_of_block (cs := #[.int .i64 4, .string o, .int .i64 2]) (t := 76) (fr := (0, 0)) (heap_alloc_new W5 _)) (by simp [Value.oneCell']) (by omega) (by unfold maxLen; omega) (by omega) (by have := H2.out.base; simp; omega) (W5.heap.size + 1) (by simp) ?_; intro g cap w4 hown4 hgrow4 hat4 hlt4; have h3 := H2.out.farTok (by repeat (first | exact Below.refl _ _ | refine Below.drew ?_ | refine Below.alloc ?_ (Nat.le_refl _) _)) hgrow4; have h4 := (H2.out.old ((Below.refl _ W5).alloc (Nat.le_refl _) _)).newTok hown4 hgrow4 (hat4.imp id (fun e => by simpa using e)); obtain ⟨_, z1, _, z3, _, _, _, zf⟩ := spCells_at h3; have zf3 := zf 3; obtain ⟨_, y1, _, _, _, _, _, yf⟩ := spCells_at h4.blk; have yf1 := yf 1; have H4 := Lib.hid h4; have hB4 := Below.setCell ((((Below.refl B W5).alloc hBw (.cells #[.int .i64 4, .string o, .int .i64 2] 76)).grown hgrow4 (by have := H2.out.base; simp; omega) (fun k hk => (H2.out.tok.lt k hk).1))) hBb (p := ⟨b, 3, none⟩) (.slice (some ⟨g, 0, none⟩) (n + 1) cap); clear h3 h4 zf yf hown4 d3 fz3))
                go_end0
                have hle := HE3.out
                have hp3 := HP3.out
                have hnn := HNN.out
                exact ⟨rfl, ((hb2.out.trans hB4).setCell hBb _), e3, 1, wd, n + 1, m, (H4.out.putP e3 he3s).i, Nat.le_refl _, Nat.le_succ _, id, fun _ => ⟨by omega, fun _ => ⟨1, rfl, HPc.out⟩⟩⟩
              · have HF := Lib.hid hf
                clear hf
                go_wp2_with fail
                go_quiet ((first | (go_at_call 42; exact Calls.quiet_of_same (faint_v _ hze HF)) | (go_at_call 43; exact Calls.quiet_of_same (within_v _ hze HC))))
                have hL2 := Lib.hid (HLq.out.drewN nq)
                have hb2 := Lib.hid (below_drewN HBq.out nq)
                clear c0 c1 HLq HBq
                generalize w1.drewN nq = W5 at *
                go_upto_region 32 with (go_at_call 23; refine (stop_any B b s p 1 0 wd n m _ hL2.out).mono ?_; rintro e w3 ⟨rfl, hL3, hb3⟩)
                obtain ⟨tv, cv, co, xs, ys, h⟩ := hL3
                obtain ⟨i0, hi0, hz0, hz1, hz2⟩ := info_parts Tryz.info76
                obtain ⟨⟨ta, tc, rfl⟩, fa, fc, rfl⟩ := h.forms
                obtain ⟨d0, d1, d2, d3, d4, d5, d6, fz⟩ := spCells_at h.blk
                have H2 := Lib.hid h
                have hBb := h.hB
                have hBw := h.base
                have fz3 := fz 3
                clear h d0 d1 d2 d4 d5 d6 fz
                go_wp2_with (first
                  | (at_builtin; refine wpList_append_lies _ (by rfl) _ _ _ (by rfl) B 76 i0 _ 3 32 Tryz.underlying24 hi0 hz0 hz1 hz2 rfl (by omega) (.slice ta n tc) n xs (by rfl) (H2.out.tok.alloc _) ⟨w3.heap.size, 0, none⟩ 1 1 [.int .i64 4, .string o, .int .i64 2] (by rfl) (by rfl) (World.news_of_block (cs := #[.int .i64 4, .string o, .int .i64 2]) (t := 76) (fr := (0, 0)) (heap_alloc_new w3 _)) (by simp [Value.oneCell']) (by omega) (by unfold maxLen; omega) (by omega) (by have := H2.out.base; simp; omega) (w3.heap.size + 1) (by simp) ?_; intro g cap w4 hown4 hgrow4 hat4 hlt4; have h3 := H2.out.farTok (by repeat (first | exact Below.refl _ _ | refine Below.drew ?_ | refine Below.alloc ?_ (Nat.le_refl _) _)) hgrow4; have h4 := (H2.out.old ((Below.refl _ w3).alloc (Nat.le_refl _) _)).newTok hown4 hgrow4 (hat4.imp id (fun e => by simpa using e)); obtain ⟨_, z1, _, z3, _, _, _, zf⟩ := spCells_at h3; have zf3 := zf 3; obtain ⟨_, y1, _, _, _, _, _, yf⟩ := spCells_at h4.blk; have yf1 := yf 1; have H4 := Lib.hid h4; have hB4 := Below.setCell ((((Below.refl B w3).alloc hBw (.cells #[.int .i64 4, .string o, .int .i64 2] 76)).grown hgrow4 (by have := H2.out.base; simp; omega) (fun k hk => (H2.out.tok.lt k hk).1))) hBb (p := ⟨b, 3, none⟩) (.slice (some ⟨g, 0, none⟩) (n + 1) cap); clear h3 h4 zf yf hown4 d3 fz3))
                go_end0
                exact OneP.fell (((hb2.out.trans hb3).trans hB4).setCell hBb _) (H4.out.putP e3 he3s).i (Nat.le_refl _) (Nat.le_succ _) (by decide)
            · have HC := Lib.hid hc
              clear hc
              go_wp2_with fail
              go_quiet ((go_at_call 43; exact Calls.quiet_of_same (within_v _ hze HC)))
              have hL2 := Lib.hid (HLq.out.drewN nq)
              have hb2 := Lib.hid (below_drewN HBq.out nq)
              clear c0 c1 HLq HBq
              generalize w1.drewN nq = W5 at *
              go_upto_region 32 with (go_at_call 23; refine (stop_any B b s p 1 0 wd n m _ hL2.out).mono ?_; rintro e w3 ⟨rfl, hL3, hb3⟩)
              obtain ⟨tv, cv, co, xs, ys, h⟩ := hL3
              obtain ⟨i0, hi0, hz0, hz1, hz2⟩ := info_parts Tryz.info76
              obtain ⟨⟨ta, tc, rfl⟩, fa, fc, rfl⟩ := h.forms
              obtain ⟨d0, d1, d2, d3, d4, d5, d6, fz⟩ := spCells_at h.blk
              have H2 := Lib.hid h
              have hBb := h.hB
              have hBw := h.base
              have fz3 := fz 3
              clear h d0 d1 d2 d4 d5 d6 fz
              go_wp2_with (first
                | (at_builtin; refine wpList_append_lies _ (by rfl) _ _ _ (by rfl) B 76 i0 _ 3 32 Tryz.underlying24 hi0 hz0 hz1 hz2 rfl (by omega) (.slice ta n tc) n xs (by rfl) (H2.out.tok.alloc _) ⟨w3.heap.size, 0, none⟩ 1 1 [.int .i64 4, .string o, .int .i64 2] (by rfl) (by rfl) (World.news_of_block (cs := #[.int .i64 4, .string o, .int .i64 2]) (t := 76) (fr := (0, 0)) (heap_alloc_new w3 _)) (by simp [Value.oneCell']) (by omega) (by unfold maxLen; omega) (by omega) (by have := H2.out.base; simp; omega) (w3.heap.size + 1) (by simp) ?_; intro g cap w4 hown4 hgrow4 hat4 hlt4; have h3 := H2.out.farTok (by repeat (first | exact Below.refl _ _ | refine Below.drew ?_ | refine Below.alloc ?_ (Nat.le_refl _) _)) hgrow4; have h4 := (H2.out.old ((Below.refl _ w3).alloc (Nat.le_refl _) _)).newTok hown4 hgrow4 (hat4.imp id (fun e => by simpa using e)); obtain ⟨_, z1, _, z3, _, _, _, zf⟩ := spCells_at h3; have zf3 := zf 3; obtain ⟨_, y1, _, _, _, _, _, yf⟩ := spCells_at h4.blk; have yf1 := yf 1; have H4 := Lib.hid h4; have hB4 := Below.setCell ((((Below.refl B w3).alloc hBw (.cells #[.int .i64 4, .string o, .int .i64 2] 76)).grown hgrow4 (by have := H2.out.base; simp; omega) (fun k hk => (H2.out.tok.lt k hk).1))) hBb (p := ⟨b, 3, none⟩) (.slice (some ⟨g, 0, none⟩) (n + 1) cap); clear h3 h4 zf yf hown4 d3 fz3))
              go_end0
              exact OneP.fell (((hb2.out.trans hb3).trans hB4).setCell hBb _) (H4.out.putP e3 he3s).i (Nat.le_refl _) (Nat.le_succ _) (by decide)
end Go.Proofs.YtjjmgnllhihoeaaGreatFmt

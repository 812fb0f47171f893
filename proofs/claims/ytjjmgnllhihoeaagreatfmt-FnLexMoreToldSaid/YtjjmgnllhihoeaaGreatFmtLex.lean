/- The package's lexer, whole: over a text that is cut into pieces it gives their tokens and one for the end. -/
import Derived.Test.YtjjmgnllhihoeaaGreatFmtSymD
import Derived.Test.YtjjmgnllhihoeaaGreatFmtNum
import Derived.Test.YtjjmgnllhihoeaaGreatFmtMake
import Derived.Test.YtjjmgnllhihoeaaGreatFmtVerb
import Derived.IntWalk
set_option linter.unusedSimpArgs false
set_option linter.unusedVariables false
namespace Go.Proofs.YtjjmgnllhihoeaaGreatFmt
open Go.RowKit
attribute [local go_sem ↓] Go.wp_at_zero Go.wp_at_succ

/-- n tokens and one more, no error. -/
def LexP (n : Nat) (w : World) (e : Ending) (w' : World) : Prop := ∃ (a : Option Addr) (c : Nat), e = .returned (.tuple #[.slice a (n + 1) c, .nilIface]) ∧ Below w.heap.size w w'

theorem reset_l {B b : Nat} {t : ByteArray} {p ts n m : Nat} {w : World} (h : LexI B b t p ts n m w) : Calls Tryz.prog 28 #[.pointer (some ⟨b, 0, none⟩)] w (fun e w' => e = .returned (.tuple #[]) ∧ LexI B b t p p n m w' ∧ Below B w w') :=
  (reset_any B b t p ts n m w h).mono fun _ _ ⟨he, hL, hg⟩ => ⟨he, hL, (Below.refl B w).grown hg h.baseW (fun k hk => by cases hk; exact h.base)⟩
theorem white_l {B b : Nat} {t : ByteArray} {p ts n m : Nat} {w : World} (h : LexI B b t p ts n m w) : Calls Tryz.prog 25 #[.pointer (some ⟨b, 0, none⟩)] w (fun e w' => ∃ (p' : Nat) (nl ind : Int), e = .returned (.tuple #[.int .i64 nl, .int .i64 ind]) ∧ LexI B b t p' ts n m w' ∧ Below B w w' ∧ p ≤ p' ∧ (∀ j, p ≤ j → j < p' → Ws (ch t j)) ∧ ¬ Ws (ch t p')) :=
  (lexWhite_any B b t p ts n m w h).mono fun _ _ ⟨p', nl, ind, he, hL, hg, h1, h2, h3⟩ => ⟨p', nl, ind, he, hL, (Below.refl B w).grown hg h.baseW (fun k hk => by cases hk; exact h.base), h1, h2, h3⟩
theorem loc_l {B b : Nat} {t : ByteArray} {p ts n m : Nat} {w : World} (h : LexI B b t p ts n m w) : Calls Tryz.prog 32 #[.pointer (some ⟨b, 0, none⟩)] w (fun e w' => ∃ x y : Int, e = .returned (.agg #[.int .i64 x, .int .i64 y]) ∧ LexI B b t p ts n m w' ∧ Below B w w') :=
  (location_any B b t p ts n m w h).mono fun _ _ ⟨x, y, he, hb⟩ => ⟨x, y, he, h.old hb, hb.mono h.baseW⟩

theorem Quot.atFin {c : Nat → Nat} {q k j : Nat} (h : Quot c q k j) (hq : c k = q) : k + 1 = j := by
  cases h with
  | fin _ _ => rfl
  | esc _ _ h1 _ _ => exact absurd hq h1
  | step _ _ h1 _ _ _ => exact absurd hq h1
theorem Verb.atFin {c : Nat → Nat} {q k j : Nat} (h : Verb c q k j) (hq : c k = q) (hq2 : c (k + 1) ≠ q) : k + 1 = j := by
  cases h with
  | fin _ _ _ => rfl
  | dbl _ _ _ h1 _ => exact absurd h1 hq2
  | step _ _ h1 _ _ => exact absurd hq h1
theorem Verb.atDbl {c : Nat → Nat} {q k j : Nat} (h : Verb c q k j) (hq : c k = q) (hq2 : c (k + 1) = q) : Verb c q (k + 2) j := by
  cases h with
  | fin _ _ h1 => exact absurd hq2 h1
  | dbl _ _ _ _ h2 => exact h2
  | step _ _ h1 _ _ => exact absurd hq h1
theorem not_ws_end (t : ByteArray) : ¬ Ws (ch t t.size) := by rw [ch_out t _ (Nat.le_refl _)]; unfold Ws; omega

set_option maxRecDepth 100000 in
set_option maxHeartbeats 64000000 in
theorem lex_any (t : ByteArray) (n : Nat) (w : World) (ht : t.size ≤ 100000) (h2 : 2 ≤ w.heap.size) (hT : Lib.Utf8Tabs 0 1 w) (hc : Chain (ch t) 0 t.size n) :
    Calls Tryz.prog 8 #[.string ⟨#[]⟩, .string ⟨#[]⟩, .string t] w (LexP n w) := by
  have HC0 := Lib.hid hc
  have HT := Lib.hid hT
  have hnt := hc.tokLe
  clear hc hT
  go_enter Tryz.func8, Tryz.ntmps8
  go_wp2_with (go_at_call 24; refine (make_any t _ ht h2 HT.out).mono ?_; rintro e w1 ⟨b, rfl, hL, hb⟩)
  go_loopg [9] (t.size + 1) (fun k x9 wr => ∃ p ts N r m : Nat, LexI w.heap.size b t p ts N m wr ∧ Below w.heap.size w wr ∧ Chain (ch t) p t.size r ∧ N + r = n ∧ m ≤ 3 * p ∧ t.size + 1 - p ≤ k)
  case atStart => exact ⟨0, 0, 0, n, 0, hL, hb, HC0.out, by omega, by omega, by omega⟩
  case round =>
    as_aux_lemma =>
    clear hL hb HC0 HT h2
    obtain ⟨p, ts, N, r, m, hL, hBw, hcn, hN, hm, hk⟩ := hrel
    have HL := Lib.hid hL
    have HBw := Lib.hid hBw
    have HC := Lib.hid hcn
    have HN := Lib.hid hN
    have HK := Lib.hid hk
    have hN2 : N ≤ 200000 := by omega
    have hpt := hL.bounds.2.1
    clear hL hBw hcn hN hk
    go_upto_if 31 with (first
      | (go_at_call 25; refine (white_l HL.out).mono ?_; rintro e w2 ⟨i, nl, indn, rfl, hL2, hb2, hp2, hw2, hn2⟩)
      | (go_at_call 26; refine (peek_l hL2 rfl).mono ?_; rintro e w3 ⟨rfl, hL3, hb3⟩))
    have hC2 := HC.out.skipWs (not_ws_end t) hp2 hw2
    have HL3 := Lib.hid hL3
    have HB3 := Lib.hid ((HBw.out.trans hb2).trans hb3)
    have HW := Lib.hid hn2
    have hit := hL3.bounds.2.1
    have HC2 := Lib.hid hC2
    clear hL2 hL3 hb2 hb3 HBw HL HC hw2 hn2 hC2
    by_cases hend : i = t.size
    · have xe : (rv t i == -1) = true := by rw [(rv_end t i (by omega)).1]; rfl
      have he := (rv_end t i (by omega))
      have HE := Lib.hid he
      have hr0 : r = 0 := by have := HC2.out; rw [hend] at this; exact this.end_
      have HR0 := Lib.hid hr0
      generalize rv t i = rr at xe
      clear he hr0 hend
      as_aux_lemma =>
      go_wp2_with (first
        | (go_at_call 27; refine (next_r HL3.out rfl).mono ?_; rintro e w4 ⟨rfl, hL4, hb4⟩; rw [HE.out.2] at hL4)
        | (go_at_call 28; refine (reset_l hL4).mono ?_; rintro e w5 ⟨rfl, hL5, hb5⟩)
        | (go_at_call 30; refine (emitToken_any _ b t i i N m _ hL5 hN2 36).mono ?_; rintro e w6 ⟨rfl, hL6, hb6⟩; obtain ⟨src, tv, fv, l1, l2, ln, ls, fr, xs, ys, hx⟩ := hL6; obtain ⟨⟨ta, tc, rfl⟩, _⟩ := hx.forms; have d4 := hx.cells.2.2.2.1))
      go_ret2
      have h1 := HN.out
      have h2 := HR0.out
      obtain rfl : n = N := by omega
      exact ⟨ta, tc, rfl, ((HB3.out.trans hb4).trans hb5).trans hb6⟩
    · have xe : (rv t i == -1) = false := by
        have : rv t i ≠ -1 := by
          by_cases h128 : ch t i < 128
          · rw [(rv_low t i h128).1]; omega
          · have := (rv_high t i (by omega) (by omega)).1; omega
        simpa using this
      obtain ⟨j, d, r2, hpc, hcc, hrr⟩ := HC2.out.uncons hend
      have HPc := Lib.hid hpc
      have HCc := Lib.hid hcc
      have HRr := Lib.hid hrr
      have hij := hpc.lt
      have hjt := hcc.le
      generalize rv t i = rr at xe
      clear hend hpc hcc hrr HC2
      go_upto_if 37 with fail
      go_cut [12] (fun s12 wx => ∃ m' : Nat, LexI w.heap.size b t i ts N m' wx ∧ Below w.heap.size w wx ∧ m' ≤ m + 1)
      case first =>
        as_aux_lemma =>
        by_cases hnl : 0 < nl
        · go_wp2_with (first
            | (go_at_call 29; refine (addFodder_any _ b t i ts N m _ (HL3.out.old ((Below.refl _ w3).alloc (Nat.le_refl _) _)) (by omega) 0 _ indn _ 0 0 (.inl ⟨rfl, by omega⟩)).mono ?_; rintro e w4 ⟨rfl, hL4, hb4⟩))
          go_meet
          exact ⟨m + 1, hL4, (HB3.out.alloc HL3.out.baseW _).trans hb4, Nat.le_refl _⟩
        · go_wp2_with fail
          go_meet
          exact ⟨m, HL3.out, HB3.out, Nat.le_succ _⟩
      case rest =>
        as_aux_lemma =>
        obtain ⟨m', hLx, hBx, hm'⟩ := hcut
        have HLx := Lib.hid hLx
        have HBx := Lib.hid hBx
        clear hLx hBx HL3 HB3 xe
        have hm2 : m' ≤ 999900 := by omega
        have hNd : N + (d + r2) = n := by have h1 := HN.out; have h2 := HRr.out; omega
        have HNd := Lib.hid hNd
        clear HN HRr hNd
        rcases HPc.out with hws | ⟨_, hl1, hl2, hl3, hl4⟩ | ⟨jc, hc1, hc2, hc3, hc4, hc5, hc6⟩ | ⟨a, q0, nn, _, hb1, hb2, hb3, hb4, hb5, hb6, hb7, hb8, hb9, hb10, hb11, hb12⟩ | ⟨_, q, hv1, hv2, hv3, hv4⟩ | ⟨_, q, hq1, hq2, hq3⟩ | ⟨_, hnum⟩ | ⟨_, hi1, hi2, hi3, hi4, hi5⟩ | hpn | ⟨ee, _, ho1, ho2, ho3, ho4, ho5, ho6, ho7⟩
        · exact absurd hws HW.out
        · have HL1 := Lib.hid hl1
          have HL3 := Lib.hid hl3
          have HL4 := Lib.hid hl4
          rcases hl1 with h35 | ⟨h47, _⟩
          · as_aux_lemma =>
            have HR : Hid (rv t i = 35) := Lib.hid ((rv_eq t i 35 (by omega)).2 h35)
            have hif : ifB 35 = false := by decide
            have hsy : syB 35 = false := by decide
            clear h35 hl3 hl4
            go_wp2_with (first
              | (go_at_call 28; refine (reset_l HLx.out).mono ?_; rintro e w5 ⟨rfl, hL5, hb5⟩)
              | (go_at_call 26; refine (peek_l hL5 HR.out).mono ?_; rintro e w6 ⟨rfl, hL6, hb6⟩)
              | (go_at_call 36; refine (isIF_any _ _).mono ?_; rintro e w9 ⟨rfl, rfl⟩)
              | (go_at_call 38; refine (isSymbol_any _ _).mono ?_; rintro e w9 ⟨rfl, rfl⟩)
              | (go_at_call 39; refine (symLine_any _ b t i j i N m' _ hL6 (by omega) HL1.out hl2 HL3.out HL4.out).mono ?_; rintro e w7 ⟨rfl, ⟨p7, ts7, m7, hp7, hw7, hn7, hm7, hL7⟩, hb7⟩))
            have hk' := HK.out
            have hn' := HNd.out
            go_roundg (gk - 1)
            case measure => omega
            case rel => exact ⟨p7, ts7, N, r2, m7, hL7, (((HBx.out.trans hb5).trans hb6).trans hb7), HCc.out.skipWs (not_ws_end t) hp7 hw7, by omega, by omega, by omega⟩
          · as_aux_lemma =>
            have HR : Hid (rv t i = 47) := Lib.hid ((rv_eq t i 47 (by omega)).2 h47)
            have hif : ifB 47 = false := by decide
            have hsy : syB 47 = true := by decide
            clear h47 hl3 hl4
            go_wp2_with (first
              | (go_at_call 28; refine (reset_l HLx.out).mono ?_; rintro e w5 ⟨rfl, hL5, hb5⟩)
              | (go_at_call 26; refine (peek_l hL5 HR.out).mono ?_; rintro e w6 ⟨rfl, hL6, hb6⟩)
              | (go_at_call 36; refine (isIF_any _ _).mono ?_; rintro e w9 ⟨rfl, rfl⟩)
              | (go_at_call 38; refine (isSymbol_any _ _).mono ?_; rintro e w9 ⟨rfl, rfl⟩)
              | (go_at_call 39; refine (symLine_any _ b t i j i N m' _ hL6 (by omega) HL1.out hl2 HL3.out HL4.out).mono ?_; rintro e w7 ⟨rfl, ⟨p7, ts7, m7, hp7, hw7, hn7, hm7, hL7⟩, hb7⟩))
            have hk' := HK.out
            have hn' := HNd.out
            go_roundg (gk - 1)
            case measure => omega
            case rel => exact ⟨p7, ts7, N, r2, m7, hL7, (((HBx.out.trans hb5).trans hb6).trans hb7), HCc.out.skipWs (not_ws_end t) hp7 hw7, by omega, by omega, by omega⟩
        · as_aux_lemma =>
          have HR : Hid (rv t i = 47) := Lib.hid ((rv_eq t i 47 (by omega)).2 hc1)
          have HH : Hid (ch t i = 47 ∧ ch t (i + 1) = 42 ∧ ch t jc = 42 ∧ ch t (jc + 1) = 47) := Lib.hid ⟨hc1, hc2, hc5, hc6⟩
          have HH4 := Lib.hid hc4
          have hif : ifB 47 = false := by decide
          have hsy : syB 47 = true := by decide
          clear hc1 hc2 hc4 hc5 hc6
          go_wp2_with (first
            | (go_at_call 28; refine (reset_l HLx.out).mono ?_; rintro e w5 ⟨rfl, hL5, hb5⟩)
            | (go_at_call 26; refine (peek_l hL5 HR.out).mono ?_; rintro e w6 ⟨rfl, hL6, hb6⟩)
            | (go_at_call 36; refine (isIF_any _ _).mono ?_; rintro e w9 ⟨rfl, rfl⟩)
            | (go_at_call 38; refine (isSymbol_any _ _).mono ?_; rintro e w9 ⟨rfl, rfl⟩)
            | (go_at_call 39; refine (symComm_any _ b t i jc N m' _ hL6 (by omega) HH.out.1 HH.out.2.1 hc3 HH4.out HH.out.2.2.1 HH.out.2.2.2).mono ?_; rintro e w7 ⟨rfl, ⟨p7, ts7, m7, hp7, hw7, hn7, hm7, hL7⟩, hb7⟩))
          have hk' := HK.out
          have hn' := HNd.out
          go_roundg (gk - 1)
          case measure => omega
          case rel => exact ⟨p7, ts7, N, r2, m7, hL7, (((HBx.out.trans hb5).trans hb6).trans hb7), HCc.out.skipWs (not_ws_end t) hp7 hw7, by omega, by omega, by omega⟩
        · as_aux_lemma =>
          have HR : Hid (rv t i = 124) := Lib.hid ((rv_eq t i 124 (by omega)).2 hb1)
          have HH : Hid (ch t i = 124 ∧ ch t (i + 1) = 124 ∧ ch t (i + 2) = 124 ∧ ch t a = 10) := Lib.hid ⟨hb1, hb2, hb3, hb6⟩
          have H5 := Lib.hid hb5
          have H8 := Lib.hid hb8
          have H10 := Lib.hid hb10
          have H11 := Lib.hid hb11
          have H12 := Lib.hid hb12
          have hif : ifB 124 = false := by decide
          have hsy : syB 124 = true := by decide
          clear hb1 hb2 hb3 hb5 hb6 hb8 hb10 hb11 hb12
          go_wp2_with (first
            | (go_at_call 28; refine (reset_l HLx.out).mono ?_; rintro e w5 ⟨rfl, hL5, hb5⟩)
            | (go_at_call 26; refine (peek_l hL5 HR.out).mono ?_; rintro e w6 ⟨rfl, hL6, hb6⟩)
            | (go_at_call 36; refine (isIF_any _ _).mono ?_; rintro e w9 ⟨rfl, rfl⟩)
            | (go_at_call 38; refine (isSymbol_any _ _).mono ?_; rintro e w9 ⟨rfl, rfl⟩)
            | (go_at_call 39; refine (symBlock_any _ b t i a q0 nn j N m' _ hL6 hN2 HH.out.1 HH.out.2.1 HH.out.2.2.1 hb4 H5.out HH.out.2.2.2 hb7 H8.out hb9 H10.out H11.out H12.out).mono ?_; rintro e w7 ⟨rfl, hL7, hb7⟩))
          have hk' := HK.out
          have hn' := HNd.out
          go_roundg (gk - 1)
          case measure => omega
          case rel => exact ⟨j, j, N + 1, r2, 0, hL7, (((HBx.out.trans hb5).trans hb6).trans hb7), HCc.out, by omega, by omega, by omega⟩
        · rcases hv3 with rfl | rfl
          · as_aux_lemma =>
            have HR : Hid (rv t i = 64) := Lib.hid ((rv_eq t i 64 (by omega)).2 hv1)
            have hvj := hv4.lt
            have HV := Lib.hid hv4
            have hnx : nx t i = i + 1 := (rv_low t i (by omega)).2.1
            have HX := Lib.hid hnx
            have hnx2 : nx t (i + 1) = i + 2 := (rv_low t (i + 1) (by omega)).2.1
            have HX2 := Lib.hid hnx2
            have HQ1 : Hid (rv t (i + 1) = 34) := Lib.hid ((rv_eq t (i + 1) 34 (by omega)).2 hv2)
            obtain ⟨i0, hi0, hz0, hz1, hz2⟩ := info_parts Tryz.info21
            obtain ⟨G1, hG1⟩ : ∃ G, G = gk := ⟨_, rfl⟩
            have HG1 := Lib.hid hG1
            clear hv1 hv2 hv4 hnx hnx2 hG1
            go_wp2_with (first
              | (go_at_call 28; refine (reset_l HLx.out).mono ?_; rintro e w5 ⟨rfl, hL5, hb5⟩)
              | (go_at_call 26; refine (peek_l hL5 HR.out).mono ?_; rintro e w6 ⟨rfl, hL6, hb6⟩)
              | (go_at_call 32; refine (loc_l hL6).mono ?_; rintro e w7 ⟨lx, ly, rfl, hL7, hb7⟩; have hb7 := hb7.alloc hL7.baseW (.cells #[.int .i64 lx, .int .i64 ly] 57); have hL7 := hL7.old ((Below.refl _ w7).alloc (Nat.le_refl _) (.cells #[.int .i64 lx, .int .i64 ly] 57)))
              | (go_at_call 27; refine (next_r hL7 HR.out).mono ?_; rintro e w8 ⟨rfl, hL8, hb8⟩; rw [HX.out] at hL8; have hL7 := hL8; have hb7 := hb7.trans hb8)
              | (go_at_call 27; refine (next_r hL7 HQ1.out).mono ?_; rintro e w8 ⟨rfl, hL8, hb8⟩; rw [HX2.out] at hL8; have hL7 := hL8; have hb7 := hb7.trans hb8)
              | (go_at_call 27; refine (next_r (p := i + 2) hL7 rfl).mono ?_; rintro e w8 ⟨rfl, hL8, hb8⟩; have hL7 := hL8; have hb7 := hb7.trans hb8))
            have hb9 := ((HBx.out.trans hb5).trans hb6).trans hb7
            have hV0 : VB w.heap.size b t (nx t (i + 2)) i N m' (.slice none 0 0) [] w8 := ⟨hL7, World.ownsRow_nil _ _ _ _⟩
            go_loopg [13, 17] (t.size - i) (fun k x13 x17 wr => ∃ (p1 : Nat) (zs : List Int), x13 = .int .i32 (rv t p1) ∧ VB w.heap.size b t (nx t p1) i N m' x17 zs wr ∧ Below w.heap.size w wr ∧ Verb (ch t) 34 p1 j ∧ j - p1 ≤ k ∧ i + 2 ≤ p1 ∧ zs.length ≤ p1)
            case atStart => exact ⟨i + 2, [], rfl, hV0, hb9, HV.out, by omega, Nat.le_refl _, Nat.zero_le _⟩
            case round =>
              clear hL5 hb5 hL6 hb6 hL7 hb7 hb9 HLx HBx hV0
              obtain ⟨p1, zs, rfl, hV, hBw, hVe, hk, hp1, hzl⟩ := hrel
              have hvj1 := hVe.lt
              have HBw := Lib.hid hBw
              clear hBw HV
              by_cases hcq : ch t p1 = 34
              · obtain ⟨hr, hx1, hps1⟩ := rv_low t p1 (by omega)
                rw [hcq] at hr
                rw [hr]
                rw [hx1] at hV
                have HVB := Lib.hid hV
                by_cases hcn : ch t (p1 + 1) = 34
                · have hV2 := hVe.atDbl hcq hcn
                  have HV2 := Lib.hid hV2
                  obtain ⟨hr2, hx2, hps2⟩ := rv_low t (p1 + 1) (by omega)
                  rw [hcn] at hr2
                  have HR2 := Lib.hid hr2
                  have HX3 := Lib.hid hx2
                  have HK1 := Lib.hid hk
                  have hlt2 := hV2.lt
                  clear hk hVe hcq hcn hr hx1 hV hV2 hr2 hx2
                  as_aux_lemma =>
                  go_wp2_with (first
                    | (go_at_call 26; refine (HVB.out.peek HR2.out).mono ?_; rintro e w9 ⟨rfl, hV9, hb9⟩; have hb9 := HBw.out.trans hb9)
                    | (go_at_call 27; refine (hV11.next rfl).mono ?_; rintro e w12 ⟨rfl, hV12, hb12⟩)
                    | (go_at_call 27; refine (hV9.next HR2.out).mono ?_; rintro e w10 ⟨rfl, hV10, hb10⟩; rw [HX3.out] at hV10)
                    | (at_builtin; refine wpList_append_lies _ (by rfl) _ _ _ (by rfl) w.heap.size 21 i0 _ 1 4 Tryz.underlying39 hi0 hz0 hz1 hz2 rfl (by omega) _ zs.length (zs.map (Value.int .i32)) (by rfl) (hV10.row.alloc _) ⟨w10.heap.size, 0, none⟩ 1 1 [.int .i32 34] (by rfl) (by rfl) (World.news_of_block (cs := #[.int .i32 34]) (t := 21) (fr := (0, 0)) (heap_alloc_new w10 _)) (by simp [Value.oneCell']) (by omega) (by unfold maxLen; omega) (by omega) (by have := hV10.lex.baseW; simp; omega) (w10.heap.size + 1) (by simp) ?_; intro g cap w11 hown11 hgrow11 hat11 hlt11; have hV11 := (hV10.old ((Below.refl _ w10).alloc (Nat.le_refl _) _)).pushed (zs' := zs ++ [34]) hgrow11 ((Below.refl _ _).grown hgrow11 (by have := hV10.lex.baseW; simp; omega) (fun k hk => (hV10.row.lt k hk).1)) (by rw [← push_int, List.length_append]; exact hown11)))
                  have hb13 := (((hb9.trans hb10).alloc hV10.lex.baseW (.cells #[.int .i32 34] 21)).grown hgrow11 (by have := hV10.lex.baseW; simp; omega) (fun k hk => (hV10.row.lt k hk).1)).trans hb12
                  have hk' := HK1.out
                  go_roundg (gk - 1)
                  case measure => omega
                  case rel => exact ⟨p1 + 2, _, rfl, hV12, hb13, HV2.out, by omega, by omega, by simp; omega⟩
                · obtain rfl := hVe.atFin hcq hcn
                  have hnn : ∃ r, rv t (p1 + 1) = r ∧ (r == 34) = false := ⟨_, rfl, by
                    have : rv t (p1 + 1) ≠ 34 := fun h => hcn ((rv_eq t (p1 + 1) 34 (by omega)).1 h)
                    simpa using this⟩
                  obtain ⟨r2', hr2, y2⟩ := hnn
                  have HR2 := Lib.hid hr2
                  clear hk hVe hcq hcn hr hx1 hV hr2
                  as_aux_lemma =>
                  go_wp2_with (first
                    | (go_at_call 26; refine (HVB.out.peek HR2.out).mono ?_; rintro e w9 ⟨rfl, hV9, hb9⟩; have hb9 := HBw.out.trans hb9; obtain ⟨so, hcv⟩ := conv_row hV9.row)
                    | (go_at_call 34; refine (emitFull_any _ b t (p1 + 1) i N m' _ hV9.lex hN2 _ _ _ _).mono ?_; rintro e w10 ⟨rfl, hL10, hb10⟩)
                    | (go_at_call 28; refine (reset_l hL10).mono ?_; rintro e w11 ⟨rfl, hL11, hb11⟩))
                  have hb13 := (hb9.trans hb10).trans hb11
                  have hk' := HK.out
                  have hg' := HG1.out
                  have hn' := HNd.out
                  go_roundg (G1 - 1)
                  case measure => omega
                  case rel => exact ⟨p1 + 1, p1 + 1, N + 1, r2, 0, hL11, hb13, HCc.out, by omega, by omega, by omega⟩
              · have hV2 := hVe.next (by omega) hcq
                have hne : ch t p1 ≠ 256 := by
                  cases hVe with
                  | fin _ e _ => exact absurd e hcq
                  | dbl _ _ e _ _ => exact absurd e hcq
                  | step _ _ _ e _ => exact e
                have hps1 := ch_ne hne
                have hnl := nx_lt t p1 hps1
                have HV2 := Lib.hid hV2
                have z1 : rv t p1 ≠ -1 := by
                  by_cases h128 : ch t p1 < 128
                  · rw [(rv_low t p1 h128).1]; omega
                  · have := (rv_high t p1 hps1 (by omega)).1; omega
                have z2 : rv t p1 ≠ 34 := fun h => hcq ((rv_eq t p1 34 (by omega)).1 h)
                generalize rv t p1 = r1 at z1 z2 ⊢
                have y1 : (r1 == -1) = false := by simpa using z1
                have y2 : (r1 == 34) = false := by simpa using z2
                have HVB := Lib.hid hV
                have HK1 := Lib.hid hk
                clear z1 z2 hcq hVe hV2 hne hV hk
                as_aux_lemma =>
                go_wp2_with (first
                  | (go_at_call 27; refine (hV11.next rfl).mono ?_; rintro e w12 ⟨rfl, hV12, hb12⟩)
                  | (at_builtin; refine wpList_append_lies _ (by rfl) _ _ _ (by rfl) w.heap.size 21 i0 _ 1 4 Tryz.underlying39 hi0 hz0 hz1 hz2 rfl (by omega) _ zs.length (zs.map (Value.int .i32)) (by rfl) (HVB.out.row.alloc _) ⟨wr.heap.size, 0, none⟩ 1 1 [.int .i32 r1] (by rfl) (by rfl) (World.news_of_block (cs := #[.int .i32 r1]) (t := 21) (fr := (0, 0)) (heap_alloc_new wr _)) (by simp [Value.oneCell']) (by omega) (by unfold maxLen; omega) (by omega) (by have := HVB.out.lex.baseW; simp; omega) (wr.heap.size + 1) (by simp) ?_; intro g cap w11 hown11 hgrow11 hat11 hlt11; have hV11 := (HVB.out.old ((Below.refl _ wr).alloc (Nat.le_refl _) _)).pushed (zs' := zs ++ [r1]) hgrow11 ((Below.refl _ _).grown hgrow11 (by have := HVB.out.lex.baseW; simp; omega) (fun k hk => (HVB.out.row.lt k hk).1)) (by rw [← push_int, List.length_append]; exact hown11)))
                have hb13 := ((HBw.out.alloc HVB.out.lex.baseW (.cells #[.int .i32 r1] 21)).grown hgrow11 (by have := HVB.out.lex.baseW; simp; omega) (fun k hk => (HVB.out.row.lt k hk).1)).trans hb12
                have hk' := HK1.out
                go_roundg (gk - 1)
                case measure => omega
                case rel => exact ⟨nx t p1, _, rfl, hV12, hb13, HV2.out, by omega, by omega, by simp; omega⟩
          · as_aux_lemma =>
            have HR : Hid (rv t i = 64) := Lib.hid ((rv_eq t i 64 (by omega)).2 hv1)
            have hvj := hv4.lt
            have HV := Lib.hid hv4
            have hnx : nx t i = i + 1 := (rv_low t i (by omega)).2.1
            have HX := Lib.hid hnx
            have hnx2 : nx t (i + 1) = i + 2 := (rv_low t (i + 1) (by omega)).2.1
            have HX2 := Lib.hid hnx2
            have HQ1 : Hid (rv t (i + 1) = 39) := Lib.hid ((rv_eq t (i + 1) 39 (by omega)).2 hv2)
            obtain ⟨i0, hi0, hz0, hz1, hz2⟩ := info_parts Tryz.info21
            obtain ⟨G1, hG1⟩ : ∃ G, G = gk := ⟨_, rfl⟩
            have HG1 := Lib.hid hG1
            clear hv1 hv2 hv4 hnx hnx2 hG1
            go_wp2_with (first
              | (go_at_call 28; refine (reset_l HLx.out).mono ?_; rintro e w5 ⟨rfl, hL5, hb5⟩)
              | (go_at_call 26; refine (peek_l hL5 HR.out).mono ?_; rintro e w6 ⟨rfl, hL6, hb6⟩)
              | (go_at_call 32; refine (loc_l hL6).mono ?_; rintro e w7 ⟨lx, ly, rfl, hL7, hb7⟩; have hb7 := hb7.alloc hL7.baseW (.cells #[.int .i64 lx, .int .i64 ly] 57); have hL7 := hL7.old ((Below.refl _ w7).alloc (Nat.le_refl _) (.cells #[.int .i64 lx, .int .i64 ly] 57)))
              | (go_at_call 27; refine (next_r hL7 HR.out).mono ?_; rintro e w8 ⟨rfl, hL8, hb8⟩; rw [HX.out] at hL8; have hL7 := hL8; have hb7 := hb7.trans hb8)
              | (go_at_call 27; refine (next_r hL7 HQ1.out).mono ?_; rintro e w8 ⟨rfl, hL8, hb8⟩; rw [HX2.out] at hL8; have hL7 := hL8; have hb7 := hb7.trans hb8)
              | (go_at_call 27; refine (next_r (p := i + 2) hL7 rfl).mono ?_; rintro e w8 ⟨rfl, hL8, hb8⟩; have hL7 := hL8; have hb7 := hb7.trans hb8))
            have hb9 := ((HBx.out.trans hb5).trans hb6).trans hb7
            have hV0 : VB w.heap.size b t (nx t (i + 2)) i N m' (.slice none 0 0) [] w8 := ⟨hL7, World.ownsRow_nil _ _ _ _⟩
            go_loopg [13, 17] (t.size - i) (fun k x13 x17 wr => ∃ (p1 : Nat) (zs : List Int), x13 = .int .i32 (rv t p1) ∧ VB w.heap.size b t (nx t p1) i N m' x17 zs wr ∧ Below w.heap.size w wr ∧ Verb (ch t) 39 p1 j ∧ j - p1 ≤ k ∧ i + 2 ≤ p1 ∧ zs.length ≤ p1)
            case atStart => exact ⟨i + 2, [], rfl, hV0, hb9, HV.out, by omega, Nat.le_refl _, Nat.zero_le _⟩
            case round =>
              clear hL5 hb5 hL6 hb6 hL7 hb7 hb9 HLx HBx hV0
              obtain ⟨p1, zs, rfl, hV, hBw, hVe, hk, hp1, hzl⟩ := hrel
              have hvj1 := hVe.lt
              have HBw := Lib.hid hBw
              clear hBw HV
              by_cases hcq : ch t p1 = 39
              · obtain ⟨hr, hx1, hps1⟩ := rv_low t p1 (by omega)
                rw [hcq] at hr
                rw [hr]
                rw [hx1] at hV
                have HVB := Lib.hid hV
                by_cases hcn : ch t (p1 + 1) = 39
                · have hV2 := hVe.atDbl hcq hcn
                  have HV2 := Lib.hid hV2
                  obtain ⟨hr2, hx2, hps2⟩ := rv_low t (p1 + 1) (by omega)
                  rw [hcn] at hr2
                  have HR2 := Lib.hid hr2
                  have HX3 := Lib.hid hx2
                  have HK1 := Lib.hid hk
                  have hlt2 := hV2.lt
                  clear hk hVe hcq hcn hr hx1 hV hV2 hr2 hx2
                  as_aux_lemma =>
                  go_wp2_with (first
                    | (go_at_call 26; refine (HVB.out.peek HR2.out).mono ?_; rintro e w9 ⟨rfl, hV9, hb9⟩; have hb9 := HBw.out.trans hb9)
                    | (go_at_call 27; refine (hV11.next rfl).mono ?_; rintro e w12 ⟨rfl, hV12, hb12⟩)
                    | (go_at_call 27; refine (hV9.next HR2.out).mono ?_; rintro e w10 ⟨rfl, hV10, hb10⟩; rw [HX3.out] at hV10)
                    | (at_builtin; refine wpList_append_lies _ (by rfl) _ _ _ (by rfl) w.heap.size 21 i0 _ 1 4 Tryz.underlying39 hi0 hz0 hz1 hz2 rfl (by omega) _ zs.length (zs.map (Value.int .i32)) (by rfl) (hV10.row.alloc _) ⟨w10.heap.size, 0, none⟩ 1 1 [.int .i32 39] (by rfl) (by rfl) (World.news_of_block (cs := #[.int .i32 39]) (t := 21) (fr := (0, 0)) (heap_alloc_new w10 _)) (by simp [Value.oneCell']) (by omega) (by unfold maxLen; omega) (by omega) (by have := hV10.lex.baseW; simp; omega) (w10.heap.size + 1) (by simp) ?_; intro g cap w11 hown11 hgrow11 hat11 hlt11; have hV11 := (hV10.old ((Below.refl _ w10).alloc (Nat.le_refl _) _)).pushed (zs' := zs ++ [39]) hgrow11 ((Below.refl _ _).grown hgrow11 (by have := hV10.lex.baseW; simp; omega) (fun k hk => (hV10.row.lt k hk).1)) (by rw [← push_int, List.length_append]; exact hown11)))
                  have hb13 := (((hb9.trans hb10).alloc hV10.lex.baseW (.cells #[.int .i32 39] 21)).grown hgrow11 (by have := hV10.lex.baseW; simp; omega) (fun k hk => (hV10.row.lt k hk).1)).trans hb12
                  have hk' := HK1.out
                  go_roundg (gk - 1)
                  case measure => omega
                  case rel => exact ⟨p1 + 2, _, rfl, hV12, hb13, HV2.out, by omega, by omega, by simp; omega⟩
                · obtain rfl := hVe.atFin hcq hcn
                  have hnn : ∃ r, rv t (p1 + 1) = r ∧ (r == 39) = false := ⟨_, rfl, by
                    have : rv t (p1 + 1) ≠ 39 := fun h => hcn ((rv_eq t (p1 + 1) 39 (by omega)).1 h)
                    simpa using this⟩
                  obtain ⟨r2', hr2, y2⟩ := hnn
                  have HR2 := Lib.hid hr2
                  clear hk hVe hcq hcn hr hx1 hV hr2
                  as_aux_lemma =>
                  go_wp2_with (first
                    | (go_at_call 26; refine (HVB.out.peek HR2.out).mono ?_; rintro e w9 ⟨rfl, hV9, hb9⟩; have hb9 := HBw.out.trans hb9; obtain ⟨so, hcv⟩ := conv_row hV9.row)
                    | (go_at_call 34; refine (emitFull_any _ b t (p1 + 1) i N m' _ hV9.lex hN2 _ _ _ _).mono ?_; rintro e w10 ⟨rfl, hL10, hb10⟩)
                    | (go_at_call 28; refine (reset_l hL10).mono ?_; rintro e w11 ⟨rfl, hL11, hb11⟩))
                  have hb13 := (hb9.trans hb10).trans hb11
                  have hk' := HK.out
                  have hg' := HG1.out
                  have hn' := HNd.out
                  go_roundg (G1 - 1)
                  case measure => omega
                  case rel => exact ⟨p1 + 1, p1 + 1, N + 1, r2, 0, hL11, hb13, HCc.out, by omega, by omega, by omega⟩
              · have hV2 := hVe.next (by omega) hcq
                have hne : ch t p1 ≠ 256 := by
                  cases hVe with
                  | fin _ e _ => exact absurd e hcq
                  | dbl _ _ e _ _ => exact absurd e hcq
                  | step _ _ _ e _ => exact e
                have hps1 := ch_ne hne
                have hnl := nx_lt t p1 hps1
                have HV2 := Lib.hid hV2
                have z1 : rv t p1 ≠ -1 := by
                  by_cases h128 : ch t p1 < 128
                  · rw [(rv_low t p1 h128).1]; omega
                  · have := (rv_high t p1 hps1 (by omega)).1; omega
                have z2 : rv t p1 ≠ 39 := fun h => hcq ((rv_eq t p1 39 (by omega)).1 h)
                generalize rv t p1 = r1 at z1 z2 ⊢
                have y1 : (r1 == -1) = false := by simpa using z1
                have y2 : (r1 == 39) = false := by simpa using z2
                have HVB := Lib.hid hV
                have HK1 := Lib.hid hk
                clear z1 z2 hcq hVe hV2 hne hV hk
                as_aux_lemma =>
                go_wp2_with (first
                  | (go_at_call 27; refine (hV11.next rfl).mono ?_; rintro e w12 ⟨rfl, hV12, hb12⟩)
                  | (at_builtin; refine wpList_append_lies _ (by rfl) _ _ _ (by rfl) w.heap.size 21 i0 _ 1 4 Tryz.underlying39 hi0 hz0 hz1 hz2 rfl (by omega) _ zs.length (zs.map (Value.int .i32)) (by rfl) (HVB.out.row.alloc _) ⟨wr.heap.size, 0, none⟩ 1 1 [.int .i32 r1] (by rfl) (by rfl) (World.news_of_block (cs := #[.int .i32 r1]) (t := 21) (fr := (0, 0)) (heap_alloc_new wr _)) (by simp [Value.oneCell']) (by omega) (by unfold maxLen; omega) (by omega) (by have := HVB.out.lex.baseW; simp; omega) (wr.heap.size + 1) (by simp) ?_; intro g cap w11 hown11 hgrow11 hat11 hlt11; have hV11 := (HVB.out.old ((Below.refl _ wr).alloc (Nat.le_refl _) _)).pushed (zs' := zs ++ [r1]) hgrow11 ((Below.refl _ _).grown hgrow11 (by have := HVB.out.lex.baseW; simp; omega) (fun k hk => (HVB.out.row.lt k hk).1)) (by rw [← push_int, List.length_append]; exact hown11)))
                have hb13 := ((HBw.out.alloc HVB.out.lex.baseW (.cells #[.int .i32 r1] 21)).grown hgrow11 (by have := HVB.out.lex.baseW; simp; omega) (fun k hk => (HVB.out.row.lt k hk).1)).trans hb12
                have hk' := HK1.out
                go_roundg (gk - 1)
                case measure => omega
                case rel => exact ⟨nx t p1, _, rfl, hV12, hb13, HV2.out, by omega, by omega, by simp; omega⟩
        · rcases hq2 with rfl | rfl
          · as_aux_lemma =>
            have HR : Hid (rv t i = 34) := Lib.hid ((rv_eq t i 34 (by omega)).2 hq1)
            have hqj := hq3.lt
            have HQ := Lib.hid hq3
            have hnx : nx t i = i + 1 := (rv_low t i (by omega)).2.1
            have HX := Lib.hid hnx
            obtain ⟨G1, hG1⟩ : ∃ G, G = gk := ⟨_, rfl⟩
            have HG1 := Lib.hid hG1
            clear hq1 hq3 hnx hG1
            go_wp2_with (first
              | (go_at_call 28; refine (reset_l HLx.out).mono ?_; rintro e w5 ⟨rfl, hL5, hb5⟩)
              | (go_at_call 26; refine (peek_l hL5 HR.out).mono ?_; rintro e w6 ⟨rfl, hL6, hb6⟩)
              | (go_at_call 32; refine (loc_l hL6).mono ?_; rintro e w7 ⟨lx, ly, rfl, hL7, hb7⟩; have hb7 := hb7.alloc hL7.baseW (.cells #[.int .i64 lx, .int .i64 ly] 57); have hL7 := hL7.old ((Below.refl _ w7).alloc (Nat.le_refl _) (.cells #[.int .i64 lx, .int .i64 ly] 57)))
              | (go_at_call 27; refine (next_r hL7 rfl).mono ?_; rintro e w8 ⟨rfl, hL8, hb8⟩; (try rw [HX.out] at hL8); have hL7 := hL8; have hb7 := hb7.trans hb8))
            have hb9 := ((HBx.out.trans hb5).trans hb6).trans hb7
            go_loopg [13] (t.size - i) (fun k x13 wr => ∃ p1 : Nat, x13 = .int .i32 (rv t p1) ∧ LexI w.heap.size b t (nx t p1) i N m' wr ∧ Below w.heap.size w wr ∧ Quot (ch t) 34 p1 j ∧ j - p1 ≤ k ∧ i + 1 ≤ p1)
            case atStart => exact ⟨i + 1, rfl, hL7, hb9, HQ.out, by omega, Nat.le_refl _⟩
            case round =>
              clear hL5 hb5 hL6 hb6 hL7 hb7 hb9 HLx HBx
              obtain ⟨p1, rfl, hL, hBw, hQ, hk, hp1⟩ := hrel
              have hqj1 := hQ.lt
              have HBw := Lib.hid hBw
              clear hBw HQ
              by_cases hcq : ch t p1 = 34
              · obtain rfl := hQ.atFin hcq
                obtain ⟨hr, hx1, hps1⟩ := rv_low t p1 (by omega)
                rw [hcq] at hr
                rw [hr]
                rw [hx1] at hL
                have HL := Lib.hid hL
                obtain ⟨src, tv, fv, l1, l2, ln, ls, fr, xs, ys, hxx⟩ := hL
                have hblk := hxx.blk
                clear hk hQ hcq hr hx1 hxx
                as_aux_lemma =>
                have i1 : (0 : Int) ≤ (i : Int) + 1 := by omega
                have i2 : (i : Int) + 1 ≤ (p1 : Int) := by omega
                have i3 : (p1 : Int) ≤ (t.size : Int) := by omega
                have ww1 : IntKind.i64.wrap (p1 : Int) = (p1 : Int) := IntWalk.i64_in _ (by omega)
                have ww2 : IntKind.i64.wrap ((i : Int) + 1) = (i : Int) + 1 := IntWalk.i64_in _ (by omega)
                go_wp2_with fail
                refine wp_region_held_tail 17 17 (fun w' => w'.heap[b]? = some (.cells (lexCells t src tv fv i l1 l2 fr (p1 + 1 : Nat) ln ls) 69 (0, 0))) (by kernel_rfl) (by kernel_rfl) (by intro c a' d' v' w' h'; cases d' <;> exact h') hblk ?_
                simp only [List.take_succ_cons, List.take_zero, List.drop_succ_cons, List.drop_zero]
                iterate 17
                  refine wpHeld_cons ?_ (by rfl) (fun w' hSw => ?_) ?_
                  rotate_left 1
                  · obtain ⟨_, z2, _, _, _, z6, _, _, _, z10, _⟩ := cells_at hSw
                    go_simp
                    try with_reducible rfl
                  simp only [Act.put, List.setIfInBounds_toArray, List.set_cons_zero, List.set_cons_succ]
                refine wpHeld_nil ?_
                refine wpMid_nil ?_
                have hbd : Below wr.heap.size wr wr.drew := ⟨rfl, rfl, rfl, Nat.le_refl _, fun _ _ => rfl⟩
                clear ww1 ww2
                go_wp2_with (first
                  | (go_at_call 34; refine (emitFull_any _ b t (p1 + 1) i N m' _ (HL.out.old hbd) hN2 _ _ _ _).mono ?_; rintro e w9 ⟨rfl, hL9, hb9⟩)
                  | (go_at_call 28; refine (reset_l hL9).mono ?_; rintro e w10 ⟨rfl, hL10, hb10⟩))
                have hb11 := ((HBw.out.trans (hbd.mono HL.out.baseW)).trans hb9).trans hb10
                have hk' := HK.out
                have hg' := HG1.out
                have hn' := HNd.out
                go_roundg (G1 - 1)
                case measure => omega
                case rel => exact ⟨p1 + 1, p1 + 1, N + 1, r2, 0, hL10, hb11, HCc.out, by omega, by omega, by omega⟩
              · have HK1 := Lib.hid hk
                have HL := Lib.hid hL
                clear hk hL
                by_cases h92 : ch t p1 = 92
                · obtain ⟨hp1s, hQ2⟩ := hQ.nextEsc (by omega) (by omega) h92
                  obtain ⟨hr, hx1, hps1⟩ := rv_low t p1 (by omega)
                  rw [h92] at hr
                  rw [hr]
                  have HX1 := Lib.hid hx1
                  have HQ2 := Lib.hid hQ2
                  have hnl := nx_lt t (p1 + 1) hp1s
                  have hrp : ∃ r, rv t (p1 + 1) = r ∧ (r != -1) = true := ⟨_, rfl, by
                    have : rv t (p1 + 1) ≠ -1 := by
                      by_cases h128 : ch t (p1 + 1) < 128
                      · rw [(rv_low t (p1 + 1) h128).1]; omega
                      · have := (rv_high t (p1 + 1) hp1s (by omega)).1; omega
                    simpa using this⟩
                  obtain ⟨ry, hry, y1⟩ := hrp
                  have HRY := Lib.hid hry
                  have hL := HL.out
                  rw [hx1] at hL
                  have HL2 := Lib.hid hL
                  clear hr hx1 h92 hcq hQ hQ2 hry HL hL
                  as_aux_lemma =>
                  go_wp2_with (first
                    | (go_at_call 26; refine (peek_l HL2.out HRY.out).mono ?_; rintro e w9 ⟨rfl, hL9, hb9⟩; have hb9 := HBw.out.trans hb9)
                    | (go_at_call 27; refine (next_r hL9 rfl).mono ?_; rintro e w10 ⟨rfl, hL10, hb10⟩; have hL9 := hL10; have hb9 := hb9.trans hb10))
                  have hk' := HK1.out
                  go_roundg (gk - 1)
                  case measure => omega
                  case rel => exact ⟨nx t (p1 + 1), rfl, hL9, hb9, HQ2.out, by omega, by omega⟩
                · have hQ2 := hQ.next (by omega) hcq h92
                  have hne : ch t p1 ≠ 256 := by
                    cases hQ with
                    | fin _ e => exact absurd e hcq
                    | esc _ _ _ e _ => exact absurd e h92
                    | step _ _ _ _ e _ => exact e
                  have hps1 := ch_ne hne
                  have hnl := nx_lt t p1 hps1
                  have HQ2 := Lib.hid hQ2
                  have z1 : rv t p1 ≠ -1 := by
                    by_cases h128 : ch t p1 < 128
                    · rw [(rv_low t p1 h128).1]; omega
                    · have := (rv_high t p1 hps1 (by omega)).1; omega
                  have z2 : rv t p1 ≠ 34 := fun h => hcq ((rv_eq t p1 34 (by omega)).1 h)
                  have z3 : rv t p1 ≠ 92 := fun h => h92 ((rv_eq t p1 92 (by omega)).1 h)
                  generalize rv t p1 = r1 at z1 z2 z3 ⊢
                  have y1 : (r1 == -1) = false := by simpa using z1
                  have y2 : (r1 == 34) = false := by simpa using z2
                  have y3 : (r1 == 92) = false := by simpa using z3
                  clear z1 z2 z3 h92 hcq hQ hQ2 hne
                  as_aux_lemma =>
                  go_wp2_with (first
                    | (go_at_call 27; refine (next_r HL.out rfl).mono ?_; rintro e w10 ⟨rfl, hL10, hb10⟩))
                  have hk' := HK1.out
                  go_roundg (gk - 1)
                  case measure => omega
                  case rel => exact ⟨nx t p1, rfl, hL10, HBw.out.trans hb10, HQ2.out, by omega, by omega⟩
          · as_aux_lemma =>
            have HR : Hid (rv t i = 39) := Lib.hid ((rv_eq t i 39 (by omega)).2 hq1)
            have hqj := hq3.lt
            have HQ := Lib.hid hq3
            have hnx : nx t i = i + 1 := (rv_low t i (by omega)).2.1
            have HX := Lib.hid hnx
            obtain ⟨G1, hG1⟩ : ∃ G, G = gk := ⟨_, rfl⟩
            have HG1 := Lib.hid hG1
            clear hq1 hq3 hnx hG1
            go_wp2_with (first
              | (go_at_call 28; refine (reset_l HLx.out).mono ?_; rintro e w5 ⟨rfl, hL5, hb5⟩)
              | (go_at_call 26; refine (peek_l hL5 HR.out).mono ?_; rintro e w6 ⟨rfl, hL6, hb6⟩)
              | (go_at_call 32; refine (loc_l hL6).mono ?_; rintro e w7 ⟨lx, ly, rfl, hL7, hb7⟩; have hb7 := hb7.alloc hL7.baseW (.cells #[.int .i64 lx, .int .i64 ly] 57); have hL7 := hL7.old ((Below.refl _ w7).alloc (Nat.le_refl _) (.cells #[.int .i64 lx, .int .i64 ly] 57)))
              | (go_at_call 27; refine (next_r hL7 rfl).mono ?_; rintro e w8 ⟨rfl, hL8, hb8⟩; (try rw [HX.out] at hL8); have hL7 := hL8; have hb7 := hb7.trans hb8))
            have hb9 := ((HBx.out.trans hb5).trans hb6).trans hb7
            go_loopg [13] (t.size - i) (fun k x13 wr => ∃ p1 : Nat, x13 = .int .i32 (rv t p1) ∧ LexI w.heap.size b t (nx t p1) i N m' wr ∧ Below w.heap.size w wr ∧ Quot (ch t) 39 p1 j ∧ j - p1 ≤ k ∧ i + 1 ≤ p1)
            case atStart => exact ⟨i + 1, rfl, hL7, hb9, HQ.out, by omega, Nat.le_refl _⟩
            case round =>
              clear hL5 hb5 hL6 hb6 hL7 hb7 hb9 HLx HBx
              obtain ⟨p1, rfl, hL, hBw, hQ, hk, hp1⟩ := hrel
              have hqj1 := hQ.lt
              have HBw := Lib.hid hBw
              clear hBw HQ
              by_cases hcq : ch t p1 = 39
              · obtain rfl := hQ.atFin hcq
                obtain ⟨hr, hx1, hps1⟩ := rv_low t p1 (by omega)
                rw [hcq] at hr
                rw [hr]
                rw [hx1] at hL
                have HL := Lib.hid hL
                obtain ⟨src, tv, fv, l1, l2, ln, ls, fr, xs, ys, hxx⟩ := hL
                have hblk := hxx.blk
                clear hk hQ hcq hr hx1 hxx
                as_aux_lemma =>
                have i1 : (0 : Int) ≤ (i : Int) + 1 := by omega
                have i2 : (i : Int) + 1 ≤ (p1 : Int) := by omega
                have i3 : (p1 : Int) ≤ (t.size : Int) := by omega
                have ww1 : IntKind.i64.wrap (p1 : Int) = (p1 : Int) := IntWalk.i64_in _ (by omega)
                have ww2 : IntKind.i64.wrap ((i : Int) + 1) = (i : Int) + 1 := IntWalk.i64_in _ (by omega)
                go_wp2_with fail
                refine wp_region_held_tail 17 17 (fun w' => w'.heap[b]? = some (.cells (lexCells t src tv fv i l1 l2 fr (p1 + 1 : Nat) ln ls) 69 (0, 0))) (by kernel_rfl) (by kernel_rfl) (by intro c a' d' v' w' h'; cases d' <;> exact h') hblk ?_
                simp only [List.take_succ_cons, List.take_zero, List.drop_succ_cons, List.drop_zero]
                iterate 17
                  refine wpHeld_cons ?_ (by rfl) (fun w' hSw => ?_) ?_
                  rotate_left 1
                  · obtain ⟨_, z2, _, _, _, z6, _, _, _, z10, _⟩ := cells_at hSw
                    go_simp
                    try with_reducible rfl
                  simp only [Act.put, List.setIfInBounds_toArray, List.set_cons_zero, List.set_cons_succ]
                refine wpHeld_nil ?_
                refine wpMid_nil ?_
                have hbd : Below wr.heap.size wr wr.drew := ⟨rfl, rfl, rfl, Nat.le_refl _, fun _ _ => rfl⟩
                clear ww1 ww2
                go_wp2_with (first
                  | (go_at_call 34; refine (emitFull_any _ b t (p1 + 1) i N m' _ (HL.out.old hbd) hN2 _ _ _ _).mono ?_; rintro e w9 ⟨rfl, hL9, hb9⟩)
                  | (go_at_call 28; refine (reset_l hL9).mono ?_; rintro e w10 ⟨rfl, hL10, hb10⟩))
                have hb11 := ((HBw.out.trans (hbd.mono HL.out.baseW)).trans hb9).trans hb10
                have hk' := HK.out
                have hg' := HG1.out
                have hn' := HNd.out
                go_roundg (G1 - 1)
                case measure => omega
                case rel => exact ⟨p1 + 1, p1 + 1, N + 1, r2, 0, hL10, hb11, HCc.out, by omega, by omega, by omega⟩
              · have HK1 := Lib.hid hk
                have HL := Lib.hid hL
                clear hk hL
                by_cases h92 : ch t p1 = 92
                · obtain ⟨hp1s, hQ2⟩ := hQ.nextEsc (by omega) (by omega) h92
                  obtain ⟨hr, hx1, hps1⟩ := rv_low t p1 (by omega)
                  rw [h92] at hr
                  rw [hr]
                  have HX1 := Lib.hid hx1
                  have HQ2 := Lib.hid hQ2
                  have hnl := nx_lt t (p1 + 1) hp1s
                  have hrp : ∃ r, rv t (p1 + 1) = r ∧ (r != -1) = true := ⟨_, rfl, by
                    have : rv t (p1 + 1) ≠ -1 := by
                      by_cases h128 : ch t (p1 + 1) < 128
                      · rw [(rv_low t (p1 + 1) h128).1]; omega
                      · have := (rv_high t (p1 + 1) hp1s (by omega)).1; omega
                    simpa using this⟩
                  obtain ⟨ry, hry, y1⟩ := hrp
                  have HRY := Lib.hid hry
                  have hL := HL.out
                  rw [hx1] at hL
                  have HL2 := Lib.hid hL
                  clear hr hx1 h92 hcq hQ hQ2 hry HL hL
                  as_aux_lemma =>
                  go_wp2_with (first
                    | (go_at_call 26; refine (peek_l HL2.out HRY.out).mono ?_; rintro e w9 ⟨rfl, hL9, hb9⟩; have hb9 := HBw.out.trans hb9)
                    | (go_at_call 27; refine (next_r hL9 rfl).mono ?_; rintro e w10 ⟨rfl, hL10, hb10⟩; have hL9 := hL10; have hb9 := hb9.trans hb10))
                  have hk' := HK1.out
                  go_roundg (gk - 1)
                  case measure => omega
                  case rel => exact ⟨nx t (p1 + 1), rfl, hL9, hb9, HQ2.out, by omega, by omega⟩
                · have hQ2 := hQ.next (by omega) hcq h92
                  have hne : ch t p1 ≠ 256 := by
                    cases hQ with
                    | fin _ e => exact absurd e hcq
                    | esc _ _ _ e _ => exact absurd e h92
                    | step _ _ _ _ e _ => exact e
                  have hps1 := ch_ne hne
                  have hnl := nx_lt t p1 hps1
                  have HQ2 := Lib.hid hQ2
                  have z1 : rv t p1 ≠ -1 := by
                    by_cases h128 : ch t p1 < 128
                    · rw [(rv_low t p1 h128).1]; omega
                    · have := (rv_high t p1 hps1 (by omega)).1; omega
                  have z2 : rv t p1 ≠ 39 := fun h => hcq ((rv_eq t p1 39 (by omega)).1 h)
                  have z3 : rv t p1 ≠ 92 := fun h => h92 ((rv_eq t p1 92 (by omega)).1 h)
                  generalize rv t p1 = r1 at z1 z2 z3 ⊢
                  have y1 : (r1 == -1) = false := by simpa using z1
                  have y2 : (r1 == 39) = false := by simpa using z2
                  have y3 : (r1 == 92) = false := by simpa using z3
                  clear z1 z2 z3 h92 hcq hQ hQ2 hne
                  as_aux_lemma =>
                  go_wp2_with (first
                    | (go_at_call 27; refine (next_r HL.out rfl).mono ?_; rintro e w10 ⟨rfl, hL10, hb10⟩))
                  have hk' := HK1.out
                  go_roundg (gk - 1)
                  case measure => omega
                  case rel => exact ⟨nx t p1, rfl, hL10, HBw.out.trans hb10, HQ2.out, by omega, by omega⟩
        · have hdg := hnum.dg
          unfold Dg at hdg
          have HNu := Lib.hid hnum
          have h10 : ch t i = 48 ∨ ch t i = 49 ∨ ch t i = 50 ∨ ch t i = 51 ∨ ch t i = 52 ∨ ch t i = 53 ∨ ch t i = 54 ∨ ch t i = 55 ∨ ch t i = 56 ∨ ch t i = 57 := by omega
          clear hnum hdg
          rcases h10 with h | h | h | h | h | h | h | h | h | h
          · as_aux_lemma =>
            have HR : Hid (rv t i = 48) := Lib.hid ((rv_eq t i 48 (by omega)).2 h)
            clear h
            go_wp2_with (first
              | (go_at_call 28; refine (reset_l HLx.out).mono ?_; rintro e w5 ⟨rfl, hL5, hb5⟩)
              | (go_at_call 26; refine (peek_l hL5 HR.out).mono ?_; rintro e w6 ⟨rfl, hL6, hb6⟩)
              | (go_at_call 31; refine (lexNumber_any _ b t i j i N m' _ hL6 hN2 HNu.out).mono ?_; rintro e w7 ⟨rfl, hL7, hb7⟩))
            have hk' := HK.out
            have hn' := HNd.out
            go_roundg (gk - 1)
            case measure => omega
            case rel => exact ⟨j, j, N + 1, r2, 0, hL7, (((HBx.out.trans hb5).trans hb6).trans hb7), HCc.out, by omega, by omega, by omega⟩
          · as_aux_lemma =>
            have HR : Hid (rv t i = 49) := Lib.hid ((rv_eq t i 49 (by omega)).2 h)
            clear h
            go_wp2_with (first
              | (go_at_call 28; refine (reset_l HLx.out).mono ?_; rintro e w5 ⟨rfl, hL5, hb5⟩)
              | (go_at_call 26; refine (peek_l hL5 HR.out).mono ?_; rintro e w6 ⟨rfl, hL6, hb6⟩)
              | (go_at_call 31; refine (lexNumber_any _ b t i j i N m' _ hL6 hN2 HNu.out).mono ?_; rintro e w7 ⟨rfl, hL7, hb7⟩))
            have hk' := HK.out
            have hn' := HNd.out
            go_roundg (gk - 1)
            case measure => omega
            case rel => exact ⟨j, j, N + 1, r2, 0, hL7, (((HBx.out.trans hb5).trans hb6).trans hb7), HCc.out, by omega, by omega, by omega⟩
          · as_aux_lemma =>
            have HR : Hid (rv t i = 50) := Lib.hid ((rv_eq t i 50 (by omega)).2 h)
            clear h
            go_wp2_with (first
              | (go_at_call 28; refine (reset_l HLx.out).mono ?_; rintro e w5 ⟨rfl, hL5, hb5⟩)
              | (go_at_call 26; refine (peek_l hL5 HR.out).mono ?_; rintro e w6 ⟨rfl, hL6, hb6⟩)
              | (go_at_call 31; refine (lexNumber_any _ b t i j i N m' _ hL6 hN2 HNu.out).mono ?_; rintro e w7 ⟨rfl, hL7, hb7⟩))
            have hk' := HK.out
            have hn' := HNd.out
            go_roundg (gk - 1)
            case measure => omega
            case rel => exact ⟨j, j, N + 1, r2, 0, hL7, (((HBx.out.trans hb5).trans hb6).trans hb7), HCc.out, by omega, by omega, by omega⟩
          · as_aux_lemma =>
            have HR : Hid (rv t i = 51) := Lib.hid ((rv_eq t i 51 (by omega)).2 h)
            clear h
            go_wp2_with (first
              | (go_at_call 28; refine (reset_l HLx.out).mono ?_; rintro e w5 ⟨rfl, hL5, hb5⟩)
              | (go_at_call 26; refine (peek_l hL5 HR.out).mono ?_; rintro e w6 ⟨rfl, hL6, hb6⟩)
              | (go_at_call 31; refine (lexNumber_any _ b t i j i N m' _ hL6 hN2 HNu.out).mono ?_; rintro e w7 ⟨rfl, hL7, hb7⟩))
            have hk' := HK.out
            have hn' := HNd.out
            go_roundg (gk - 1)
            case measure => omega
            case rel => exact ⟨j, j, N + 1, r2, 0, hL7, (((HBx.out.trans hb5).trans hb6).trans hb7), HCc.out, by omega, by omega, by omega⟩
          · as_aux_lemma =>
            have HR : Hid (rv t i = 52) := Lib.hid ((rv_eq t i 52 (by omega)).2 h)
            clear h
            go_wp2_with (first
              | (go_at_call 28; refine (reset_l HLx.out).mono ?_; rintro e w5 ⟨rfl, hL5, hb5⟩)
              | (go_at_call 26; refine (peek_l hL5 HR.out).mono ?_; rintro e w6 ⟨rfl, hL6, hb6⟩)
              | (go_at_call 31; refine (lexNumber_any _ b t i j i N m' _ hL6 hN2 HNu.out).mono ?_; rintro e w7 ⟨rfl, hL7, hb7⟩))
            have hk' := HK.out
            have hn' := HNd.out
            go_roundg (gk - 1)
            case measure => omega
            case rel => exact ⟨j, j, N + 1, r2, 0, hL7, (((HBx.out.trans hb5).trans hb6).trans hb7), HCc.out, by omega, by omega, by omega⟩
          · as_aux_lemma =>
            have HR : Hid (rv t i = 53) := Lib.hid ((rv_eq t i 53 (by omega)).2 h)
            clear h
            go_wp2_with (first
              | (go_at_call 28; refine (reset_l HLx.out).mono ?_; rintro e w5 ⟨rfl, hL5, hb5⟩)
              | (go_at_call 26; refine (peek_l hL5 HR.out).mono ?_; rintro e w6 ⟨rfl, hL6, hb6⟩)
              | (go_at_call 31; refine (lexNumber_any _ b t i j i N m' _ hL6 hN2 HNu.out).mono ?_; rintro e w7 ⟨rfl, hL7, hb7⟩))
            have hk' := HK.out
            have hn' := HNd.out
            go_roundg (gk - 1)
            case measure => omega
            case rel => exact ⟨j, j, N + 1, r2, 0, hL7, (((HBx.out.trans hb5).trans hb6).trans hb7), HCc.out, by omega, by omega, by omega⟩
          · as_aux_lemma =>
            have HR : Hid (rv t i = 54) := Lib.hid ((rv_eq t i 54 (by omega)).2 h)
            clear h
            go_wp2_with (first
              | (go_at_call 28; refine (reset_l HLx.out).mono ?_; rintro e w5 ⟨rfl, hL5, hb5⟩)
              | (go_at_call 26; refine (peek_l hL5 HR.out).mono ?_; rintro e w6 ⟨rfl, hL6, hb6⟩)
              | (go_at_call 31; refine (lexNumber_any _ b t i j i N m' _ hL6 hN2 HNu.out).mono ?_; rintro e w7 ⟨rfl, hL7, hb7⟩))
            have hk' := HK.out
            have hn' := HNd.out
            go_roundg (gk - 1)
            case measure => omega
            case rel => exact ⟨j, j, N + 1, r2, 0, hL7, (((HBx.out.trans hb5).trans hb6).trans hb7), HCc.out, by omega, by omega, by omega⟩
          · as_aux_lemma =>
            have HR : Hid (rv t i = 55) := Lib.hid ((rv_eq t i 55 (by omega)).2 h)
            clear h
            go_wp2_with (first
              | (go_at_call 28; refine (reset_l HLx.out).mono ?_; rintro e w5 ⟨rfl, hL5, hb5⟩)
              | (go_at_call 26; refine (peek_l hL5 HR.out).mono ?_; rintro e w6 ⟨rfl, hL6, hb6⟩)
              | (go_at_call 31; refine (lexNumber_any _ b t i j i N m' _ hL6 hN2 HNu.out).mono ?_; rintro e w7 ⟨rfl, hL7, hb7⟩))
            have hk' := HK.out
            have hn' := HNd.out
            go_roundg (gk - 1)
            case measure => omega
            case rel => exact ⟨j, j, N + 1, r2, 0, hL7, (((HBx.out.trans hb5).trans hb6).trans hb7), HCc.out, by omega, by omega, by omega⟩
          · as_aux_lemma =>
            have HR : Hid (rv t i = 56) := Lib.hid ((rv_eq t i 56 (by omega)).2 h)
            clear h
            go_wp2_with (first
              | (go_at_call 28; refine (reset_l HLx.out).mono ?_; rintro e w5 ⟨rfl, hL5, hb5⟩)
              | (go_at_call 26; refine (peek_l hL5 HR.out).mono ?_; rintro e w6 ⟨rfl, hL6, hb6⟩)
              | (go_at_call 31; refine (lexNumber_any _ b t i j i N m' _ hL6 hN2 HNu.out).mono ?_; rintro e w7 ⟨rfl, hL7, hb7⟩))
            have hk' := HK.out
            have hn' := HNd.out
            go_roundg (gk - 1)
            case measure => omega
            case rel => exact ⟨j, j, N + 1, r2, 0, hL7, (((HBx.out.trans hb5).trans hb6).trans hb7), HCc.out, by omega, by omega, by omega⟩
          · as_aux_lemma =>
            have HR : Hid (rv t i = 57) := Lib.hid ((rv_eq t i 57 (by omega)).2 h)
            clear h
            go_wp2_with (first
              | (go_at_call 28; refine (reset_l HLx.out).mono ?_; rintro e w5 ⟨rfl, hL5, hb5⟩)
              | (go_at_call 26; refine (peek_l hL5 HR.out).mono ?_; rintro e w6 ⟨rfl, hL6, hb6⟩)
              | (go_at_call 31; refine (lexNumber_any _ b t i j i N m' _ hL6 hN2 HNu.out).mono ?_; rintro e w7 ⟨rfl, hL7, hb7⟩))
            have hk' := HK.out
            have hn' := HNd.out
            go_roundg (gk - 1)
            case measure => omega
            case rel => exact ⟨j, j, N + 1, r2, 0, hL7, (((HBx.out.trans hb5).trans hb6).trans hb7), HCc.out, by omega, by omega, by omega⟩
        · as_aux_lemma =>
          have y123 : ((ch t i : Int) == 123) = false := beq_eq_false_iff_ne.2 (by unfold Lt at hi1; omega)
          have y125 : ((ch t i : Int) == 125) = false := beq_eq_false_iff_ne.2 (by unfold Lt at hi1; omega)
          have y91 : ((ch t i : Int) == 91) = false := beq_eq_false_iff_ne.2 (by unfold Lt at hi1; omega)
          have y93 : ((ch t i : Int) == 93) = false := beq_eq_false_iff_ne.2 (by unfold Lt at hi1; omega)
          have y44 : ((ch t i : Int) == 44) = false := beq_eq_false_iff_ne.2 (by unfold Lt at hi1; omega)
          have y46 : ((ch t i : Int) == 46) = false := beq_eq_false_iff_ne.2 (by unfold Lt at hi1; omega)
          have y40 : ((ch t i : Int) == 40) = false := beq_eq_false_iff_ne.2 (by unfold Lt at hi1; omega)
          have y41 : ((ch t i : Int) == 41) = false := beq_eq_false_iff_ne.2 (by unfold Lt at hi1; omega)
          have y59 : ((ch t i : Int) == 59) = false := beq_eq_false_iff_ne.2 (by unfold Lt at hi1; omega)
          have y48 : ((ch t i : Int) == 48) = false := beq_eq_false_iff_ne.2 (by unfold Lt at hi1; omega)
          have y49 : ((ch t i : Int) == 49) = false := beq_eq_false_iff_ne.2 (by unfold Lt at hi1; omega)
          have y50 : ((ch t i : Int) == 50) = false := beq_eq_false_iff_ne.2 (by unfold Lt at hi1; omega)
          have y51 : ((ch t i : Int) == 51) = false := beq_eq_false_iff_ne.2 (by unfold Lt at hi1; omega)
          have y52 : ((ch t i : Int) == 52) = false := beq_eq_false_iff_ne.2 (by unfold Lt at hi1; omega)
          have y53 : ((ch t i : Int) == 53) = false := beq_eq_false_iff_ne.2 (by unfold Lt at hi1; omega)
          have y54 : ((ch t i : Int) == 54) = false := beq_eq_false_iff_ne.2 (by unfold Lt at hi1; omega)
          have y55 : ((ch t i : Int) == 55) = false := beq_eq_false_iff_ne.2 (by unfold Lt at hi1; omega)
          have y56 : ((ch t i : Int) == 56) = false := beq_eq_false_iff_ne.2 (by unfold Lt at hi1; omega)
          have y57 : ((ch t i : Int) == 57) = false := beq_eq_false_iff_ne.2 (by unfold Lt at hi1; omega)
          have y34 : ((ch t i : Int) == 34) = false := beq_eq_false_iff_ne.2 (by unfold Lt at hi1; omega)
          have y39 : ((ch t i : Int) == 39) = false := beq_eq_false_iff_ne.2 (by unfold Lt at hi1; omega)
          have y64 : ((ch t i : Int) == 64) = false := beq_eq_false_iff_ne.2 (by unfold Lt at hi1; omega)
          have HR : Hid (rv t i = (ch t i : Int)) := Lib.hid (rv_low t i (by unfold Lt at hi1; omega)).1
          have hif : ifB (ch t i : Int) = true := by rw [← HR.out]; simp [ifB]; exact (if_of t i).2 hi1
          have H1 := Lib.hid hi1
          have H3 := Lib.hid hi3
          have H4 := Lib.hid hi4
          have H5 := Lib.hid hi5
          clear hi1 hi3 hi4 hi5
          go_wp2_with (first
            | (go_at_call 28; refine (reset_l HLx.out).mono ?_; rintro e w5 ⟨rfl, hL5, hb5⟩)
            | (go_at_call 26; refine (peek_l hL5 HR.out).mono ?_; rintro e w6 ⟨rfl, hL6, hb6⟩)
            | (go_at_call 36; refine (isIF_any _ _).mono ?_; rintro e w9 ⟨rfl, rfl⟩)
            | (go_at_call 37; refine (lexIdent_any _ b t i j i N m' _ hL6 hN2 H1.out hi2 H3.out H4.out H5.out).mono ?_; rintro e w7 ⟨rfl, hL7, hb7⟩))
          have hk' := HK.out
          have hn' := HNd.out
          go_roundg (gk - 1)
          case measure => omega
          case rel => exact ⟨j, j, N + 1, r2, 0, hL7, (((HBx.out.trans hb5).trans hb6).trans hb7), HCc.out, by omega, by omega, by omega⟩
        · have hpn' := hpn
          unfold Pn at hpn'
          clear hpn
          rcases hpn' with h | h | h | h | h | h | h | h | h
          · as_aux_lemma =>
            have HR : Hid (rv t i = 123) := Lib.hid ((rv_eq t i 123 (by omega)).2 h)
            have hnx : nx t i = i + 1 := (rv_low t i (by omega)).2.1
            have HX := Lib.hid hnx
            clear h hnx
            go_wp2_with (first
              | (go_at_call 28; refine (reset_l HLx.out).mono ?_; rintro e w5 ⟨rfl, hL5, hb5⟩)
              | (go_at_call 26; refine (peek_l hL5 HR.out).mono ?_; rintro e w6 ⟨rfl, hL6, hb6⟩)
              | (go_at_call 27; refine (next_r hL6 rfl).mono ?_; rintro e w7 ⟨rfl, hL7, hb7⟩; rw [HX.out] at hL7)
              | (go_at_call 30; refine (emitToken_any _ b t (i + 1) i N m' _ hL7 hN2 _).mono ?_; rintro e w8 ⟨rfl, hL8, hb8⟩))
            have hk' := HK.out
            have hn' := HNd.out
            go_roundg (gk - 1)
            case measure => omega
            case rel => exact ⟨i + 1, i + 1, N + 1, r2, 0, hL8, ((((HBx.out.trans hb5).trans hb6).trans hb7).trans hb8), HCc.out, by omega, by omega, by omega⟩
          · as_aux_lemma =>
            have HR : Hid (rv t i = 125) := Lib.hid ((rv_eq t i 125 (by omega)).2 h)
            have hnx : nx t i = i + 1 := (rv_low t i (by omega)).2.1
            have HX := Lib.hid hnx
            clear h hnx
            go_wp2_with (first
              | (go_at_call 28; refine (reset_l HLx.out).mono ?_; rintro e w5 ⟨rfl, hL5, hb5⟩)
              | (go_at_call 26; refine (peek_l hL5 HR.out).mono ?_; rintro e w6 ⟨rfl, hL6, hb6⟩)
              | (go_at_call 27; refine (next_r hL6 rfl).mono ?_; rintro e w7 ⟨rfl, hL7, hb7⟩; rw [HX.out] at hL7)
              | (go_at_call 30; refine (emitToken_any _ b t (i + 1) i N m' _ hL7 hN2 _).mono ?_; rintro e w8 ⟨rfl, hL8, hb8⟩))
            have hk' := HK.out
            have hn' := HNd.out
            go_roundg (gk - 1)
            case measure => omega
            case rel => exact ⟨i + 1, i + 1, N + 1, r2, 0, hL8, ((((HBx.out.trans hb5).trans hb6).trans hb7).trans hb8), HCc.out, by omega, by omega, by omega⟩
          · as_aux_lemma =>
            have HR : Hid (rv t i = 91) := Lib.hid ((rv_eq t i 91 (by omega)).2 h)
            have hnx : nx t i = i + 1 := (rv_low t i (by omega)).2.1
            have HX := Lib.hid hnx
            clear h hnx
            go_wp2_with (first
              | (go_at_call 28; refine (reset_l HLx.out).mono ?_; rintro e w5 ⟨rfl, hL5, hb5⟩)
              | (go_at_call 26; refine (peek_l hL5 HR.out).mono ?_; rintro e w6 ⟨rfl, hL6, hb6⟩)
              | (go_at_call 27; refine (next_r hL6 rfl).mono ?_; rintro e w7 ⟨rfl, hL7, hb7⟩; rw [HX.out] at hL7)
              | (go_at_call 30; refine (emitToken_any _ b t (i + 1) i N m' _ hL7 hN2 _).mono ?_; rintro e w8 ⟨rfl, hL8, hb8⟩))
            have hk' := HK.out
            have hn' := HNd.out
            go_roundg (gk - 1)
            case measure => omega
            case rel => exact ⟨i + 1, i + 1, N + 1, r2, 0, hL8, ((((HBx.out.trans hb5).trans hb6).trans hb7).trans hb8), HCc.out, by omega, by omega, by omega⟩
          · as_aux_lemma =>
            have HR : Hid (rv t i = 93) := Lib.hid ((rv_eq t i 93 (by omega)).2 h)
            have hnx : nx t i = i + 1 := (rv_low t i (by omega)).2.1
            have HX := Lib.hid hnx
            clear h hnx
            go_wp2_with (first
              | (go_at_call 28; refine (reset_l HLx.out).mono ?_; rintro e w5 ⟨rfl, hL5, hb5⟩)
              | (go_at_call 26; refine (peek_l hL5 HR.out).mono ?_; rintro e w6 ⟨rfl, hL6, hb6⟩)
              | (go_at_call 27; refine (next_r hL6 rfl).mono ?_; rintro e w7 ⟨rfl, hL7, hb7⟩; rw [HX.out] at hL7)
              | (go_at_call 30; refine (emitToken_any _ b t (i + 1) i N m' _ hL7 hN2 _).mono ?_; rintro e w8 ⟨rfl, hL8, hb8⟩))
            have hk' := HK.out
            have hn' := HNd.out
            go_roundg (gk - 1)
            case measure => omega
            case rel => exact ⟨i + 1, i + 1, N + 1, r2, 0, hL8, ((((HBx.out.trans hb5).trans hb6).trans hb7).trans hb8), HCc.out, by omega, by omega, by omega⟩
          · as_aux_lemma =>
            have HR : Hid (rv t i = 40) := Lib.hid ((rv_eq t i 40 (by omega)).2 h)
            have hnx : nx t i = i + 1 := (rv_low t i (by omega)).2.1
            have HX := Lib.hid hnx
            clear h hnx
            go_wp2_with (first
              | (go_at_call 28; refine (reset_l HLx.out).mono ?_; rintro e w5 ⟨rfl, hL5, hb5⟩)
              | (go_at_call 26; refine (peek_l hL5 HR.out).mono ?_; rintro e w6 ⟨rfl, hL6, hb6⟩)
              | (go_at_call 27; refine (next_r hL6 rfl).mono ?_; rintro e w7 ⟨rfl, hL7, hb7⟩; rw [HX.out] at hL7)
              | (go_at_call 30; refine (emitToken_any _ b t (i + 1) i N m' _ hL7 hN2 _).mono ?_; rintro e w8 ⟨rfl, hL8, hb8⟩))
            have hk' := HK.out
            have hn' := HNd.out
            go_roundg (gk - 1)
            case measure => omega
            case rel => exact ⟨i + 1, i + 1, N + 1, r2, 0, hL8, ((((HBx.out.trans hb5).trans hb6).trans hb7).trans hb8), HCc.out, by omega, by omega, by omega⟩
          · as_aux_lemma =>
            have HR : Hid (rv t i = 41) := Lib.hid ((rv_eq t i 41 (by omega)).2 h)
            have hnx : nx t i = i + 1 := (rv_low t i (by omega)).2.1
            have HX := Lib.hid hnx
            clear h hnx
            go_wp2_with (first
              | (go_at_call 28; refine (reset_l HLx.out).mono ?_; rintro e w5 ⟨rfl, hL5, hb5⟩)
              | (go_at_call 26; refine (peek_l hL5 HR.out).mono ?_; rintro e w6 ⟨rfl, hL6, hb6⟩)
              | (go_at_call 27; refine (next_r hL6 rfl).mono ?_; rintro e w7 ⟨rfl, hL7, hb7⟩; rw [HX.out] at hL7)
              | (go_at_call 30; refine (emitToken_any _ b t (i + 1) i N m' _ hL7 hN2 _).mono ?_; rintro e w8 ⟨rfl, hL8, hb8⟩))
            have hk' := HK.out
            have hn' := HNd.out
            go_roundg (gk - 1)
            case measure => omega
            case rel => exact ⟨i + 1, i + 1, N + 1, r2, 0, hL8, ((((HBx.out.trans hb5).trans hb6).trans hb7).trans hb8), HCc.out, by omega, by omega, by omega⟩
          · as_aux_lemma =>
            have HR : Hid (rv t i = 44) := Lib.hid ((rv_eq t i 44 (by omega)).2 h)
            have hnx : nx t i = i + 1 := (rv_low t i (by omega)).2.1
            have HX := Lib.hid hnx
            clear h hnx
            go_wp2_with (first
              | (go_at_call 28; refine (reset_l HLx.out).mono ?_; rintro e w5 ⟨rfl, hL5, hb5⟩)
              | (go_at_call 26; refine (peek_l hL5 HR.out).mono ?_; rintro e w6 ⟨rfl, hL6, hb6⟩)
              | (go_at_call 27; refine (next_r hL6 rfl).mono ?_; rintro e w7 ⟨rfl, hL7, hb7⟩; rw [HX.out] at hL7)
              | (go_at_call 30; refine (emitToken_any _ b t (i + 1) i N m' _ hL7 hN2 _).mono ?_; rintro e w8 ⟨rfl, hL8, hb8⟩))
            have hk' := HK.out
            have hn' := HNd.out
            go_roundg (gk - 1)
            case measure => omega
            case rel => exact ⟨i + 1, i + 1, N + 1, r2, 0, hL8, ((((HBx.out.trans hb5).trans hb6).trans hb7).trans hb8), HCc.out, by omega, by omega, by omega⟩
          · as_aux_lemma =>
            have HR : Hid (rv t i = 46) := Lib.hid ((rv_eq t i 46 (by omega)).2 h)
            have hnx : nx t i = i + 1 := (rv_low t i (by omega)).2.1
            have HX := Lib.hid hnx
            clear h hnx
            go_wp2_with (first
              | (go_at_call 28; refine (reset_l HLx.out).mono ?_; rintro e w5 ⟨rfl, hL5, hb5⟩)
              | (go_at_call 26; refine (peek_l hL5 HR.out).mono ?_; rintro e w6 ⟨rfl, hL6, hb6⟩)
              | (go_at_call 27; refine (next_r hL6 rfl).mono ?_; rintro e w7 ⟨rfl, hL7, hb7⟩; rw [HX.out] at hL7)
              | (go_at_call 30; refine (emitToken_any _ b t (i + 1) i N m' _ hL7 hN2 _).mono ?_; rintro e w8 ⟨rfl, hL8, hb8⟩))
            have hk' := HK.out
            have hn' := HNd.out
            go_roundg (gk - 1)
            case measure => omega
            case rel => exact ⟨i + 1, i + 1, N + 1, r2, 0, hL8, ((((HBx.out.trans hb5).trans hb6).trans hb7).trans hb8), HCc.out, by omega, by omega, by omega⟩
          · as_aux_lemma =>
            have HR : Hid (rv t i = 59) := Lib.hid ((rv_eq t i 59 (by omega)).2 h)
            have hnx : nx t i = i + 1 := (rv_low t i (by omega)).2.1
            have HX := Lib.hid hnx
            clear h hnx
            go_wp2_with (first
              | (go_at_call 28; refine (reset_l HLx.out).mono ?_; rintro e w5 ⟨rfl, hL5, hb5⟩)
              | (go_at_call 26; refine (peek_l hL5 HR.out).mono ?_; rintro e w6 ⟨rfl, hL6, hb6⟩)
              | (go_at_call 27; refine (next_r hL6 rfl).mono ?_; rintro e w7 ⟨rfl, hL7, hb7⟩; rw [HX.out] at hL7)
              | (go_at_call 30; refine (emitToken_any _ b t (i + 1) i N m' _ hL7 hN2 _).mono ?_; rintro e w8 ⟨rfl, hL8, hb8⟩))
            have hk' := HK.out
            have hn' := HNd.out
            go_roundg (gk - 1)
            case measure => omega
            case rel => exact ⟨i + 1, i + 1, N + 1, r2, 0, hL8, ((((HBx.out.trans hb5).trans hb6).trans hb7).trans hb8), HCc.out, by omega, by omega, by omega⟩
        · as_aux_lemma =>
          have y123 : ((ch t i : Int) == 123) = false := beq_eq_false_iff_ne.2 (by unfold Op at ho1; omega)
          have y125 : ((ch t i : Int) == 125) = false := beq_eq_false_iff_ne.2 (by unfold Op at ho1; omega)
          have y91 : ((ch t i : Int) == 91) = false := beq_eq_false_iff_ne.2 (by unfold Op at ho1; omega)
          have y93 : ((ch t i : Int) == 93) = false := beq_eq_false_iff_ne.2 (by unfold Op at ho1; omega)
          have y44 : ((ch t i : Int) == 44) = false := beq_eq_false_iff_ne.2 (by unfold Op at ho1; omega)
          have y46 : ((ch t i : Int) == 46) = false := beq_eq_false_iff_ne.2 (by unfold Op at ho1; omega)
          have y40 : ((ch t i : Int) == 40) = false := beq_eq_false_iff_ne.2 (by unfold Op at ho1; omega)
          have y41 : ((ch t i : Int) == 41) = false := beq_eq_false_iff_ne.2 (by unfold Op at ho1; omega)
          have y59 : ((ch t i : Int) == 59) = false := beq_eq_false_iff_ne.2 (by unfold Op at ho1; omega)
          have y48 : ((ch t i : Int) == 48) = false := beq_eq_false_iff_ne.2 (by unfold Op at ho1; omega)
          have y49 : ((ch t i : Int) == 49) = false := beq_eq_false_iff_ne.2 (by unfold Op at ho1; omega)
          have y50 : ((ch t i : Int) == 50) = false := beq_eq_false_iff_ne.2 (by unfold Op at ho1; omega)
          have y51 : ((ch t i : Int) == 51) = false := beq_eq_false_iff_ne.2 (by unfold Op at ho1; omega)
          have y52 : ((ch t i : Int) == 52) = false := beq_eq_false_iff_ne.2 (by unfold Op at ho1; omega)
          have y53 : ((ch t i : Int) == 53) = false := beq_eq_false_iff_ne.2 (by unfold Op at ho1; omega)
          have y54 : ((ch t i : Int) == 54) = false := beq_eq_false_iff_ne.2 (by unfold Op at ho1; omega)
          have y55 : ((ch t i : Int) == 55) = false := beq_eq_false_iff_ne.2 (by unfold Op at ho1; omega)
          have y56 : ((ch t i : Int) == 56) = false := beq_eq_false_iff_ne.2 (by unfold Op at ho1; omega)
          have y57 : ((ch t i : Int) == 57) = false := beq_eq_false_iff_ne.2 (by unfold Op at ho1; omega)
          have y34 : ((ch t i : Int) == 34) = false := beq_eq_false_iff_ne.2 (by unfold Op at ho1; omega)
          have y39 : ((ch t i : Int) == 39) = false := beq_eq_false_iff_ne.2 (by unfold Op at ho1; omega)
          have y64 : ((ch t i : Int) == 64) = false := beq_eq_false_iff_ne.2 (by unfold Op at ho1; omega)
          have HR : Hid (rv t i = (ch t i : Int)) := Lib.hid (rv_low t i (by unfold Op at ho1; omega)).1
          have hif : ifB (ch t i : Int) = false := by
            simp only [ifB, decide_eq_false_iff_not]
            intro h
            rw [← HR.out] at h
            have := (if_of t i).1 h
            unfold Lt at this; unfold Op at ho1; omega
          have hsy : syB (ch t i : Int) = true := by rw [← HR.out]; simp [syB]; exact (op_of t i).2 ho1
          have H1 := Lib.hid ho1
          have H2 := Lib.hid ho2
          have H3 := Lib.hid ho3
          have H5 := Lib.hid ho5
          have H6 := Lib.hid ho6
          have H7 := Lib.hid ho7
          clear ho1 ho2 ho3 ho5 ho6 ho7
          go_wp2_with (first
            | (go_at_call 28; refine (reset_l HLx.out).mono ?_; rintro e w5 ⟨rfl, hL5, hb5⟩)
            | (go_at_call 26; refine (peek_l hL5 HR.out).mono ?_; rintro e w6 ⟨rfl, hL6, hb6⟩)
            | (go_at_call 36; refine (isIF_any _ _).mono ?_; rintro e w9 ⟨rfl, rfl⟩)
            | (go_at_call 38; refine (isSymbol_any _ _).mono ?_; rintro e w9 ⟨rfl, rfl⟩)
            | (go_at_call 39; refine (symOp_any _ b t i ee j N m' _ hL6 hN2 H1.out H2.out H3.out ho4 H5.out H6.out H7.out).mono ?_; rintro e w7 ⟨rfl, hL7, hb7⟩))
          have hk' := HK.out
          have hn' := HNd.out
          go_roundg (gk - 1)
          case measure => omega
          case rel => exact ⟨j, j, N + 1, r2, 0, hL7, (((HBx.out.trans hb5).trans hb6).trans hb7), HCc.out, by omega, by omega, by omega⟩
end Go.Proofs.YtjjmgnllhihoeaaGreatFmt

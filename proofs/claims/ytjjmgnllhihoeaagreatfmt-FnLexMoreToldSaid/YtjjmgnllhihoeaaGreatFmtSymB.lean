/- lexSymbol at a comment between slash-star and star-slash. -/
import Derived.Test.YtjjmgnllhihoeaaGreatFmtSymA
import Derived.Test.YtjjmgnllhihoeaaGreatFmtLines
import Derived.Test.YtjjmgnllhihoeaaGreatFmtFind
set_option linter.unusedSimpArgs false
set_option linter.unusedVariables false
namespace Go.Proofs.YtjjmgnllhihoeaaGreatFmt
open Go.RowKit
attribute [local go_sem ↓] Go.wp_at_zero Go.wp_at_succ

theorem next_r {B b : Nat} {t : ByteArray} {p ts n m : Nat} {w : World} {r : Int} (h : LexI B b t p ts n m w) (hr : rv t p = r) :
    Calls Tryz.prog 27 #[.pointer (some ⟨b, 0, none⟩)] w (fun e w' => e = .returned (.int .i32 r) ∧ LexI B b t (nx t p) ts n m w' ∧ Below B w w') := by
  subst hr
  exact (next_any B b t p ts n m w h).mono fun _ _ ⟨he, hL, hg⟩ => ⟨he, hL, (Below.refl B w).grown hg h.baseW (fun k hk => by cases hk; exact h.base)⟩

theorem peek_l {B b : Nat} {t : ByteArray} {p ts n m : Nat} {w : World} {r : Int} (h : LexI B b t p ts n m w) (hr : rv t p = r) :
    Calls Tryz.prog 26 #[.pointer (some ⟨b, 0, none⟩)] w (fun e w' => e = .returned (.int .i32 r) ∧ LexI B b t p ts n m w' ∧ Below B w w') := by
  subst hr
  exact (peek_any B b t p ts n m w h).mono fun _ _ ⟨he, hL, hb⟩ => ⟨he, hL, hb.mono h.baseW⟩

theorem ch_extract0 (t : ByteArray) (p e : Nat) (h1 : p < e) (h2 : e ≤ t.size) : ch (t.extract p e) 0 = ch t p ∧ (t.extract p e).size = e - p := by
  have hs : (t.extract p e).size = e - p := by simp; omega
  refine ⟨?_, hs⟩
  rw [ch_in _ 0 (by omega), ch_in t p (by omega)]
  simp [ByteArray.getElem_extract]

theorem line_cell {w : World} {B g cap : Nat} {ls : List ByteArray} (h : w.ownsRow B 9 1 (.slice (some ⟨g, 0, none⟩) ls.length cap) ls.length (ls.map Value.string)) (i : Nat) (hi : i < ls.length) :
    w.cell? ⟨g, i, none⟩ = some (.string (ls.getD i ByteArray.empty)) := by
  rcases h.2 with ⟨hv, _⟩ | ⟨g', cap', cur, hv, _, hb, _, _, _, hx⟩
  · cases hv
  · cases hv
    have h1 : (ls.map Value.string)[i]? = some (.string (ls.getD i ByteArray.empty)) := by simp [hi]
    rw [← hx, List.getElem?_take_of_lt (by omega)] at h1
    simp only [World.cell?, hb]
    simpa using h1

set_option maxRecDepth 100000 in
set_option maxHeartbeats 6400000 in
theorem symComm_any (B b : Nat) (t : ByteArray) (p j n m : Nat) (w : World) (h : LexI B b t p p n m w) (hm : m ≤ 999900) (h1 : ch t p = 47) (h2 : ch t (p + 1) = 42) (hpj : p + 2 ≤ j)
    (hj : ∀ k, p + 2 ≤ k → k < j → ¬ (ch t k = 42 ∧ ch t (k + 1) = 47) ∧ ch t k ≠ 256) (h3 : ch t j = 42) (h4 : ch t (j + 1) = 47) :
    Calls Tryz.prog 39 #[.pointer (some ⟨b, 0, none⟩)] w (SkipTP B b t (j + 2) n m w) := by
  obtain ⟨src, tv, fv, l1, l2, ln, ls, fr, xs, ys, h⟩ := h
  have d9 := h.cells.2.2.2.2.2.2.2.2.1
  have H0 := Lib.hid h.i
  have HJ := Lib.hid hj
  obtain ⟨hr1, hx1, hl1⟩ := rv_low t p (by omega)
  obtain ⟨hr2, hx2, hl2⟩ := rv_low t (p + 1) (by omega)
  rw [h1] at hr1
  rw [h2] at hr2
  rw [← hx1] at hr2 hx2
  have HA : Hid (rv t p = 47 ∧ rv t (nx t p) = 42) := Lib.hid ⟨hr1, hr2⟩
  have HX : Hid (nx t p = p + 1 ∧ nx t (nx t p) = p + 2) := Lib.hid ⟨hx1, by rw [hx2, hx1]⟩
  have HE : Hid (ch t j = 42 ∧ ch t (j + 1) = 47) := Lib.hid ⟨h3, h4⟩
  have H47 := Lib.hid h1
  clear h hj h1 h2 h3 h4 hr1 hr2 hx1 hx2
  go_enter Tryz.func39, Tryz.ntmps39
  go_wp2_with (first
    | (go_at_call 27; refine (next_r H0.out HA.out.1).mono ?_; rintro e w1 ⟨rfl, hL1, hb1⟩)
    | (go_at_call 26; refine (peek_l hL1 HA.out.2).mono ?_; rintro e w2 ⟨rfl, hL1, hb2⟩; have hb1 := hb1.trans hb2))
  have HL1 := Lib.hid hL1
  have HB1 := Lib.hid hb1
  obtain ⟨src, tv, fv, l1, l2, ln, ls, fr', xs, ys, hx⟩ := HL1.out
  obtain ⟨_, _, _, _, _, _, d7, d8, _, d10, _, d12, _⟩ := hx.cells
  clear hx d9
  go_quiet (fail)
  have hBq : Below w2.heap.size w2 (w2.drewN nq) := ⟨rfl, rfl, rfl, Nat.le_refl _, fun _ _ => rfl⟩
  have HLq := Lib.hid (HL1.out.old hBq)
  have hbq := HB1.out.trans (hBq.mono HL1.out.baseW)
  have e7 : (w2.drewN nq).cell? ⟨b, 7, none⟩ = some (.int .i64 l1) := d7
  have e8 : (w2.drewN nq).cell? ⟨b, 8, none⟩ = some (.int .i64 l2) := d8
  clear hBq d7 d8 d10 d12
  generalize w2.drewN nq = W at *
  go_wp2_with fail
  have hBl : Below W.heap.size W (W.alloc (.cells #[.int .i64 l1, .int .i64 l2] 57)) := (Below.refl _ W).alloc (Nat.le_refl _) _
  have hL3 := HLq.out.old hBl
  have hb3 := hbq.trans (hBl.mono HLq.out.baseW)
  clear e7 e8
  refine (next_r hL3 HA.out.2).mono ?_
  rintro e w3 ⟨rfl, hL4, hb4⟩
  have hb5 := hb3.trans hb4
  go_wp2_with (first
    | (go_at_call 27; refine (next_r hL4 rfl).mono ?_; rintro e w4 ⟨rfl, hL5, hb6⟩))
  have hb7 := hb5.trans hb6
  have hnn : nx t (nx t p) = p + 2 := HX.out.2
  rw [hnn] at hL5 ⊢
  go_loopg [11] (j - (p + 2)) (fun k x11 wr => ∃ p' : Nat, x11 = .int .i32 (rv t p') ∧ j - p' ≤ k ∧ LexI B b t (nx t p') p n m wr ∧ Below B w wr ∧ p + 2 ≤ p' ∧ p' ≤ j)
  case atStart => exact ⟨p + 2, rfl, Nat.le_refl _, hL5, hb7, Nat.le_refl _, hpj⟩
  case round =>
    clear hb7 hb6 hb5 hb4 hb3 hL5 hL4 hL3 hBl hnn hL1 hb1 hb2
    obtain ⟨p', rfl, hk, hL, hB, hpp, hpj'⟩ := hrel
    have HL := Lib.hid hL
    have HB := Lib.hid hB
    have HK := Lib.hid hk
    clear hL hB hk
    by_cases hlt : p' < j
    · have hne := HJ.out p' hpp hlt
      have hps : p' < t.size := ch_ne hne.2
      have hn1 := nx_lt t p' hps
      have hn2 : nx t p' ≤ j := nx_before hlt (by rw [HE.out.1]; omega)
      have hrv : rv t p' ≠ -1 := by
        by_cases h128 : ch t p' < 128
        · rw [(rv_low t p' h128).1]; omega
        · have := (rv_high t p' hps (by omega)).1; omega
      by_cases h42 : ch t p' = 42
      · have h47 : rv t (nx t p') ≠ 47 := by
          intro h
          have h' := (rv_eq t (nx t p') 47 (by omega)).1 h
          rw [(rv_low t p' (by omega)).2.1] at h'
          exact hne.1 ⟨h42, h'⟩
        have hr42 : rv t p' = 42 := (rv_eq t p' 42 (by omega)).2 h42
        rw [hr42]
        generalize hq : rv t (nx t p') = q at h47
        have x47 : (q != 47) = true := by simp; exact h47
        have HQ := Lib.hid hq
        clear hq h47 hr42 h42 hrv hne
        as_aux_lemma =>
          go_wp2_with (first
            | (go_at_call 26; refine (peek_l HL.out HQ.out).mono ?_; rintro e w5 ⟨rfl, hL5, hb5⟩)
            | (go_at_call 27; refine (next_r hL5 HQ.out).mono ?_; rintro e w6 ⟨rfl, hL6, hb6⟩))
          have hk' := HK.out
          go_roundg (gk - 1)
          case measure => omega
          case rel => exact ⟨nx t p', by rw [HQ.out], by omega, hL6, (HB.out.trans hb5).trans hb6, by omega, hn2⟩
      · have hr42 : rv t p' ≠ 42 := fun h => h42 ((rv_eq t p' 42 (by omega)).1 h)
        generalize rv t p' = r at hr42 hrv ⊢
        have x42 : (r != 42) = true := by simp; exact hr42
        have x1 : (r == -1) = false := by simp; exact hrv
        clear h42 hr42 hrv hne
        as_aux_lemma =>
          go_wp2_with (first
            | (go_at_call 27; refine (next_r HL.out rfl).mono ?_; rintro e w6 ⟨rfl, hL6, hb6⟩))
          have hk' := HK.out
          go_roundg (gk - 1)
          case measure => omega
          case rel => exact ⟨nx t p', rfl, by omega, hL6, HB.out.trans hb6, by omega, hn2⟩
    · obtain rfl : j = p' := by omega
      obtain ⟨hr, hx, hl3⟩ := rv_low t j (by rw [HE.out.1]; omega)
      obtain ⟨hr', hx', hl4⟩ := rv_low t (j + 1) (by rw [HE.out.2]; omega)
      rw [HE.out.1] at hr
      rw [HE.out.2] at hr'
      rw [hr]
      have HR : Hid (rv t (nx t j) = 47) := Lib.hid (by rw [hx, hr']; rfl)
      have HN : Hid (nx t (nx t j) = j + 2) := Lib.hid (by rw [hx, hx'])
      clear hr hr' hx hx' hlt
      go_wp2_with (first
        | (go_at_call 26; refine (peek_l HL.out HR.out).mono ?_; rintro e w5 ⟨rfl, hL5, hb5⟩)
        | (go_at_call 27; refine (next_r hL5 HR.out).mono ?_; rintro e w6 ⟨rfl, hL6, hb6⟩))
      have hB6 := (HB.out.trans hb5).trans hb6
      rw [HN.out] at hL6
      obtain ⟨d2, d6, d10⟩ := hL6.cells
      have H6 := Lib.hid hL6
      have i1 : (0 : Int) ≤ (p : Int) := by omega
      have i2 : (p : Int) ≤ ((j + 2 : Nat) : Int) := by omega
      have i3 : ((j + 2 : Nat) : Int) ≤ (t.size : Int) := by omega
      clear hL5 hL6 hb5 hb6
      go_quiet (fail)
      have hBq : Below w6.heap.size w6 (w6.drewN nq) := ⟨rfl, rfl, rfl, Nat.le_refl _, fun _ _ => rfl⟩
      have H7 := Lib.hid (H6.out.old hBq)
      have hB7 := hB6.trans (hBq.mono H6.out.baseW)
      clear hBq d2 d6 d10
      generalize w6.drewN nq = W at *
      go_wp2_with (first
        | (go_at_call 25; refine (lexWhite_any B b t (j + 2) p n m _ H7.out).mono ?_; rintro e w8 ⟨p2, nl, ind, rfl, hL8, hg8, hp8, hw8, hn8⟩; have H8 := Lib.hid hL8; have HW8 := Lib.hid hw8; clear hw8 hL8))
      have hB8 := hB7.grown hg8 H7.out.baseW (fun k hk => by cases hk; exact H7.out.base)
      refine (containsRune_any _ _).mono ?_
      rintro e w9 ⟨x, rfl, hb9⟩
      have H9 := Lib.hid (H8.out.old hb9)
      have hB9 := hB8.trans (hb9.mono H8.out.baseW)
      clear hb9 hg8
      cases x
      · have hAl : Below w9.heap.size w9 (w9.alloc (.cells #[.string (t.extract p (j + 2))] 9)) := (Below.refl _ w9).alloc (Nat.le_refl _) _
        have H10 := Lib.hid (H9.out.old hAl)
        have hB10 := hB9.trans (hAl.mono H9.out.baseW)
        clear hAl
        by_cases hnl : 0 < nl
        · as_aux_lemma =>
          go_wp2_with fail
          refine (addFodder_any B b t p2 p n m _ H10.out (by omega) 1 0 0 _ 1 1 (.inr (.inl ⟨rfl, rfl, rfl, rfl⟩))).mono ?_
          rintro e w11 ⟨rfl, hL11, hb11⟩
          go_wp2_with fail
          refine (addFodder_any B b t p2 p n (m + 1) _ (hL11.old ((Below.refl _ w11).alloc (Nat.le_refl _) _)) (by omega) 0 _ ind _ 0 0 (.inl ⟨rfl, by omega⟩)).mono ?_
          rintro e w12 ⟨rfl, hL12, hb12⟩
          go_wp2_with fail
          go_ret
          exact ⟨rfl, ⟨p2, p, m + 1 + 1, hp8, HW8.out, hn8, by omega, hL12⟩, ((hB10.trans hb11).alloc hL11.baseW _).trans hb12⟩
        · as_aux_lemma =>
          go_wp2_with fail
          refine (addFodder_any B b t p2 p n m _ H10.out (by omega) 1 0 0 _ 1 1 (.inr (.inl ⟨rfl, rfl, rfl, rfl⟩))).mono ?_
          rintro e w11 ⟨rfl, hL11, hb11⟩
          go_wp2_with fail
          go_ret
          exact ⟨rfl, ⟨p2, p, m + 1, hp8, HW8.out, hn8, by omega, hL11⟩, hB10.trans hb11⟩
      · obtain ⟨hc0, hcs⟩ := ch_extract0 t p (j + 2) (by omega) (by omega)
        rw [H47.out] at hc0
        have ht3 := H7.out.bounds.2.2
        go_wp2_with fail
        refine (lines_any _ _ _ (by omega) hc0).mono ?_
        rintro e w10 ⟨g, cap, lns, rfl, hrow, hpos, hlen, h0, hb10⟩
        have H10 := Lib.hid (H9.out.old hb10)
        have hB10 := hB9.trans (hb10.mono H9.out.baseW)
        have c0 := line_cell hrow 0 hpos
        have hl0 : 0 < (lns.getD 0 ByteArray.empty).size := ch_ne (by rw [h0]; decide)
        have hb0 : (lns.getD 0 ByteArray.empty)[0].toNat = 47 := by rw [← ch_in _ 0 hl0]; exact h0
        generalize hl : lns.getD 0 ByteArray.empty = l0 at c0 hl0 hb0
        have HRow := Lib.hid hrow
        have HL0 := Lib.hid hl
        have HPos := Lib.hid hpos
        have hlen2 : lns.length ≤ 1000000 := by omega
        clear hrow hl h0 hc0 hcs hb10
        go_wp2_with fail
        clear c0
        go_loopg [16, 153] lns.length (fun k x16 x153 wr2 => ∃ i : Nat, x153 = .int .i64 i ∧ i ≤ lns.length ∧ lns.length - i ≤ k ∧ (x16 = .bool false ∨ (i = 0 ∧ x16 = .bool true)) ∧ wr2 = w10)
        case atStart => exact ⟨0, rfl, Nat.zero_le _, by omega, .inr ⟨rfl, rfl⟩, rfl⟩
        case round =>
          obtain ⟨i, rfl, hi, hk, hx16, rfl⟩ := hrel
          have HK := Lib.hid hk
          clear hk
          by_cases hil : i < lns.length
          · have ci := line_cell HRow.out i hil
            have i0 : (0 : Int) ≤ (i : Int) := by omega
            have HIL : Hid (i + 1 ≤ lns.length) := Lib.hid hil
            have hg : ∃ l, lns.getD i ByteArray.empty = l := ⟨_, rfl⟩
            obtain ⟨l, hg⟩ := hg
            rw [hg] at ci
            have HG := Lib.hid hg
            have HX := Lib.hid hx16
            clear hg hx16
            by_cases hz : l.size = 0
            · have hzb : ((l.size : Int) == 0) = true := by rw [hz]; rfl
              clear hz
              as_aux_lemma =>
                go_wp2_with fail
                have hk' := HK.out
                go_roundg (gk - 1)
                case measure => omega
                case rel => exact ⟨i + 1, by go_num, HIL.out, by have := HIL.out; omega, .inl rfl, rfl⟩
            · have hzb : ((l.size : Int) == 0) = false := beq_eq_false_iff_ne.2 (by omega)
              have hlp : 0 < l.size := by omega
              clear hz
              by_cases h42 : l[0].toNat = 42
              · have hu : u16 = .bool false := by
                  rcases HX.out with h | ⟨h, _⟩
                  · exact h
                  · subst h
                    have h5 := HG.out
                    rw [HL0.out] at h5
                    subst h5
                    omega
                subst hu
                as_aux_lemma =>
                  go_wp2_with fail
                  have hk' := HK.out
                  go_roundg (gk - 1)
                  case measure => omega
                  case rel => exact ⟨i + 1, by go_num, HIL.out, by have := HIL.out; omega, .inl rfl, rfl⟩
              · have x42 : ((l[0].toNat : Int) != 42) = true := by simp; omega
                clear h42
                as_aux_lemma =>
                  go_wp2_with fail
                  have hk' := HK.out
                  go_roundg (gk - 1)
                  case measure => omega
                  case rel => exact ⟨i + 1, by go_num, HIL.out, by have := HIL.out; omega, .inl rfl, rfl⟩
          · have hx : u16 = .bool false := by
              rcases hx16 with h | ⟨h, _⟩
              · exact h
              · have := HPos.out; omega
            subst hx
            clear hx16
            by_cases hnl : nl = 0
            all_goals
              as_aux_lemma =>
                go_wp2_with fail
                refine (addFodderSafe_any B b t p2 p n m _ H10.out (by omega) _ _ _ lns.length cap HPos.out).mono ?_
                rintro e w11 ⟨rfl, ⟨m', hm', hL11⟩, hb11⟩
                go_wp2_with fail
                go_ret
                exact ⟨rfl, ⟨p2, p, m', hp8, HW8.out, hn8, hm', hL11⟩, hB10.trans hb11⟩

end Go.Proofs.YtjjmgnllhihoeaaGreatFmt

/- lexSymbol at an operator. -/
import Derived.Test.YtjjmgnllhihoeaaGreatFmtSymC
import Derived.Deep.CutBlock
import Derived.Deep.DeepCutAuto
set_option linter.unusedSimpArgs false
set_option linter.unusedVariables false
namespace Go.Proofs.YtjjmgnllhihoeaaGreatFmt
open Go.RowKit
attribute [local go_sem ↓] Go.wp_at_zero Go.wp_at_succ

theorem op_of (s : ByteArray) (p : Nat) : syP (rv s p) ↔ Op (ch s p) := by
  have e : ∀ x : Nat, x < 128 → (rv s p = (x : Int) ↔ ch s p = x) := fun x hx => rv_eq s p x hx
  unfold syP Op
  have h1 := e 33 (by omega); have h2 := e 36 (by omega); have h3 := e 58 (by omega); have h4 := e 126 (by omega); have h5 := e 43 (by omega)
  have h6 := e 45 (by omega); have h7 := e 38 (by omega); have h8 := e 124 (by omega); have h9 := e 94 (by omega); have h10 := e 61 (by omega)
  have h11 := e 60 (by omega); have h12 := e 62 (by omega); have h13 := e 42 (by omega); have h14 := e 47 (by omega); have h15 := e 37 (by omega)
  omega

theorem hp2_f {t : ByteArray} {p : Nat} (h : ¬ (ch t p = 124 ∧ ch t (p + 1) = 124)) : Lib.hasPrefix (List.take (t.size - p) (List.drop p t.data.toList)) [124, 124] = false := by
  rw [hp_sp]
  cases hx : Lib.hasPrefix (t.extract p t.size).data.toList [124, 124] with
  | false => rfl
  | true => exact absurd ((prefix_2 t p).1 hx) h
theorem hp1_t {t : ByteArray} {p : Nat} (x : UInt8) (h : ch t p = x.toNat) : Lib.hasPrefix (List.take (t.size - p) (List.drop p t.data.toList)) [x] = true := by
  rw [hp_sp]; exact (prefix_1 t p x).2 h

theorem LexI.drewN {B b : Nat} {t : ByteArray} {p ts n m : Nat} {w : World} (h : LexI B b t p ts n m w) (k : Nat) : LexI B b t p ts n m (w.drewN k) := h.old ⟨rfl, rfl, rfl, Nat.le_refl _, fun _ _ => rfl⟩
theorem LexI.putP {B b : Nat} {t : ByteArray} {p ts n m : Nat} {w : World} (h : LexI B b t p ts n m w) (p' : Nat) (h1 : ts ≤ p') (h2 : p' ≤ t.size) : LexI B b t p' ts n m (w.setCell ⟨b, 10, none⟩ (.int .i64 p')) := by
  obtain ⟨_, _, _, _, _, _, _, _, _, _, h⟩ := h
  exact (h.putP p' h1 h2).i
theorem LexI.frz {B b : Nat} {t : ByteArray} {p ts n m : Nat} {w : World} (h : LexI B b t p ts n m w) : w.frozen? ⟨b, 10, none⟩ = false := by
  obtain ⟨_, _, _, _, _, _, _, _, _, _, h⟩ := h
  exact h.cells.2.2.2.2.2.2.2.2.2.2.2.2 10
theorem wrap32_byte (x : UInt8) : wrap32 (x.toNat : Int) = (x.toNat : Int) := by
  have := x.toNat_lt
  unfold wrap32; omega
theorem below_dn {B : Nat} {w w1 : World} (h : Below B w w1) (k : Nat) : Below B w (w1.drewN k) := h.trans ⟨rfl, rfl, rfl, Nat.le_refl _, fun _ _ => rfl⟩

set_option maxRecDepth 100000 in
set_option maxHeartbeats 12800000 in
theorem symOp_any (B b : Nat) (t : ByteArray) (p e j n m : Nat) (w : World) (h : LexI B b t p p n m w) (hn : n ≤ 200000) (h1 : Op (ch t p)) (h2 : ¬ (ch t p = 47 ∧ (ch t (p + 1) = 47 ∨ ch t (p + 1) = 42))) (h3 : ¬ (ch t p = 124 ∧ ch t (p + 1) = 124 ∧ ch t (p + 2) = 124)) (he : p < e)
    (hm : ∀ k, p < k → k < e → Op (ch t k) ∧ ch t k ≠ 47 ∧ ¬ (ch t k = 124 ∧ ch t (k + 1) = 124)) (hend : ¬ Op (ch t e) ∨ ch t e = 47) (hj : (j = p + 1 ∧ (e = p + 1 ∨ Tr (ch t (e - 1)))) ∨ (j = e ∧ ¬ Tr (ch t (e - 1)))) :
    Calls Tryz.prog 39 #[.pointer (some ⟨b, 0, none⟩)] w (TokP B b t j n w) := by
  obtain ⟨src, tv, fv, l1, l2, ln, ls, fr, xs, ys, h⟩ := h
  have d9 := h.cells.2.2.2.2.2.2.2.2.1
  have H0 := Lib.hid h.i
  have hps := h.b2
  have hts := h.b3
  obtain ⟨hr1, hx1, hl1⟩ := rv_low t p (by unfold Op at h1; omega)
  have HX1 : Hid (nx t p = p + 1) := Lib.hid hx1
  have HM := Lib.hid hm
  have HE := Lib.hid hend
  have HJ := Lib.hid hj
  have hes : e ≤ t.size := by
    rcases Nat.lt_or_ge t.size e with h4 | h4
    · rcases Nat.lt_or_ge p t.size with h5 | h5
      · have := (hm t.size h5 h4).1
        rw [ch_out t t.size (Nat.le_refl _)] at this
        unfold Op at this; omega
      · omega
    · exact h4
  have hr1' := hr1
  have HR1 := Lib.hid hr1'
  have x35 : ((ch t p : Int) == 35) = false := beq_eq_false_iff_ne.2 (by unfold Op at h1; omega)
  clear h hm hend hj hx1 hr1 hr1'
  by_cases h47 : ch t p = 47
  · have HR1' : Hid (rv t p = 47) := Lib.hid (by rw [HR1.out, h47]; rfl)
    have hpk : ∃ r, rv t (p + 1) = r ∧ (r == 47) = false ∧ (r == 42) = false := ⟨_, rfl, by
      have : rv t (p + 1) ≠ 47 := fun h7 => h2 ⟨h47, .inl ((rv_eq t (p + 1) 47 (by omega)).1 h7)⟩
      simpa using this, by
      have : rv t (p + 1) ≠ 42 := fun h7 => h2 ⟨h47, .inr ((rv_eq t (p + 1) 42 (by omega)).1 h7)⟩
      simpa using this⟩
    obtain ⟨r1, hr1, y47, y42⟩ := hpk
    have HP := Lib.hid hr1
    clear hr1 h1 h2 h3 h47 x35 HR1
    go_enter Tryz.func39, Tryz.ntmps39
    go_wp2_with (first
      | (go_at_call 27; refine (next_r H0.out HR1'.out).mono ?_; rintro e w1 ⟨rfl, hL1, hb1⟩; rw [HX1.out] at hL1)
      | (go_at_call 26; refine (peek_l hL1 HP.out).mono ?_; rintro e w2 ⟨rfl, hL1, hb2⟩; have hb1 := hb1.trans hb2))
    have HL1 := Lib.hid hL1
    have HB1 := Lib.hid hb1
    clear hL1 hb1 hb2 d9 HP HR1' H0
    go_quiet (fail)
    as_aux_lemma =>
      have HLq := Lib.hid (HL1.out.drewN nq)
      have HBq := Lib.hid (below_dn HB1.out nq)
      clear HL1 HB1
      go_upto_block 18 with (first
        | (go_at_call 26; refine (peek_l HLq.out rfl).mono ?_; rintro e3 w3 ⟨rfl, hL3, hb3⟩))
      have hb4 := HBq.out.trans hb3
      have HL3 := Lib.hid hL3
      have HB4 := Lib.hid hb4
      clear hL3 hb3 hb4 HLq HBq
      go_cut [4] (fun s4 wx => LexI B b t e p n m wx ∧ Below B w wx)
      case first =>
        go_wp2_with fail
        go_loopg [4] (e - (p + 1)) (fun k x4 wr => ∃ p' : Nat, x4 = .int .i32 (rv t p') ∧ LexI B b t p' p n m wr ∧ Below B w wr ∧ e - p' ≤ k ∧ p + 1 ≤ p' ∧ p' ≤ e)
        case atStart => exact ⟨p + 1, rfl, HL3.out, HB4.out, Nat.le_refl _, Nat.le_refl _, he⟩
        case round =>
          clear HL3 HB4
          obtain ⟨p', rfl, hL, hBw, hk, hpp, hpe⟩ := hrel
          have HL := Lib.hid hL
          have HBw := Lib.hid hBw
          have HK := Lib.hid hk
          clear hL hBw hk
          by_cases hlt : p' < e
          · obtain ⟨ho, hn47, hn124⟩ := HM.out p' (by omega) hlt
            obtain ⟨hr, hx, _⟩ := rv_low t p' (by unfold Op at ho; omega)
            have hs : syB (rv t p') = true := by simp [syB]; exact (op_of t p').2 ho
            rw [hr] at hs ⊢
            have HX := Lib.hid hx
            have x47 : ((ch t p' : Int) == 47) = false := beq_eq_false_iff_ne.2 (by omega)
            clear ho hn47 hr hx
            by_cases h124 : ch t p' = 124
            · as_aux_lemma =>
              have hpf := hp2_f hn124
              rw [h124] at hs ⊢
              clear h124 hn124 x47
              have i1 : (0 : Int) ≤ (p' : Int) := by omega
              have i2 : (p' : Int) ≤ (t.size : Int) := by omega
              go_wp2_with (first
                | (go_at_call 38; refine (isSymbol_any _ _).mono ?_; rintro e2 w2 ⟨rfl, rfl⟩))
              go_quiet (fail)
              have HLa := Lib.hid (HL.out.drewN nq)
              have HBa := Lib.hid (below_dn HBw.out nq)
              clear HL HBw
              generalize wr.drewN nq = W1 at *
              go_wp2_with fail
              go_quiet (fail)
              have HLb := Lib.hid (HLa.out.drewN nq)
              have HBb := Lib.hid (below_dn HBa.out nq)
              clear HLa HBa
              generalize W1.drewN nq = W2 at *
              obtain ⟨d2, _, d10⟩ := HLb.out.cells
              go_wp2_with fail
              go_quiet ((go_at_call 64; exact Calls.quiet_of_same (Tryz.strings_HasPrefix _ _ _)))
              clear d2 d10
              have HLc := Lib.hid (HLb.out.drewN nq)
              have HBc := Lib.hid (below_dn HBb.out nq)
              clear HLb HBb
              generalize W2.drewN nq = W3 at *
              go_wp2_with (first
                | (go_at_call 27; refine (next_r HLc.out rfl).mono ?_; rintro e2 w2 ⟨rfl, hL2, hb2⟩; rw [HX.out] at hL2)
                | (go_at_call 26; refine (peek_l hL2 rfl).mono ?_; rintro e3 w3 ⟨rfl, hL3, hb3⟩))
              have hk' := HK.out
              go_roundg (gk - 1)
              case measure => omega
              case rel => exact ⟨p' + 1, rfl, hL3, (HBc.out.trans hb2).trans hb3, by omega, by omega, by omega⟩
            · as_aux_lemma =>
              have x124 : ((ch t p' : Int) == 124) = false := beq_eq_false_iff_ne.2 (by omega)
              clear h124 hn124
              go_wp2_with (first
                | (go_at_call 38; refine (isSymbol_any _ _).mono ?_; rintro e2 w2 ⟨rfl, rfl⟩))
              go_quiet (fail)
              have HLa := Lib.hid (HL.out.drewN nq)
              have HBa := Lib.hid (below_dn HBw.out nq)
              clear HL HBw
              generalize wr.drewN nq = W1 at *
              go_wp2_with fail
              go_quiet (fail)
              have HLb := Lib.hid (HLa.out.drewN nq)
              have HBb := Lib.hid (below_dn HBa.out nq)
              clear HLa HBa
              generalize W1.drewN nq = W2 at *
              go_wp2_with fail
              go_quiet (fail)
              have HLc := Lib.hid (HLb.out.drewN nq)
              have HBc := Lib.hid (below_dn HBb.out nq)
              clear HLb HBb
              generalize W2.drewN nq = W3 at *
              go_wp2_with (first
                | (go_at_call 27; refine (next_r HLc.out rfl).mono ?_; rintro e2 w2 ⟨rfl, hL2, hb2⟩; rw [HX.out] at hL2)
                | (go_at_call 26; refine (peek_l hL2 rfl).mono ?_; rintro e3 w3 ⟨rfl, hL3, hb3⟩))
              have hk' := HK.out
              go_roundg (gk - 1)
              case measure => omega
              case rel => exact ⟨p' + 1, rfl, hL3, (HBc.out.trans hb2).trans hb3, by omega, by omega, by omega⟩
          · obtain rfl : e = p' := by omega
            by_cases hop : ch t e = 47
            · as_aux_lemma =>
              have hpf := hp1_t (t := t) (p := e) 47 hop
              have hr : rv t e = 47 := (rv_eq t e 47 (by omega)).2 hop
              have hs : syB 47 = true := by decide
              rw [hr]
              clear hop hr
              have i1 : (0 : Int) ≤ (e : Int) := by omega
              have i2 : (e : Int) ≤ (t.size : Int) := by omega
              obtain ⟨d2, _, d10⟩ := HL.out.cells
              go_wp2_with (first
                | (go_at_call 38; refine (isSymbol_any _ _).mono ?_; rintro e2 w2 ⟨rfl, rfl⟩))
              go_quiet ((go_at_call 64; exact Calls.quiet_of_same (Tryz.strings_HasPrefix _ _ _)))
              clear d2 d10
              go_wp2_with fail
              go_meet
              exact ⟨HL.out.drewN nq, below_dn HBw.out nq⟩
            · as_aux_lemma =>
              have hs : syB (rv t e) = false := by
                simp only [syB, decide_eq_false_iff_not]
                intro h7
                rcases HE.out with h8 | h8
                · exact h8 ((op_of t e).1 h7)
                · exact hop h8
              generalize rv t e = r at hs ⊢
              clear hop
              go_wp2_with (first
                | (go_at_call 38; refine (isSymbol_any _ _).mono ?_; rintro e2 w2 ⟨rfl, rfl⟩))
              go_meet
              exact ⟨HL.out, HBw.out⟩
      case rest =>
        obtain ⟨hL, hBw⟩ := hcut
        clear HL3 HB4
        obtain ⟨d2, d6, d10⟩ := hL.cells
        have HL := Lib.hid hL
        have HBw := Lib.hid hBw
        obtain ⟨e', rfl⟩ : ∃ e', e = e' + 1 := ⟨e - 1, by omega⟩
        have i1 : (0 : Int) ≤ (e' : Int) := by omega
        have i2 : e' < t.size := by omega
        clear hL hBw
        go_wp2_with fail
        go_quiet (fail)
        have hby : (t[e'].toNat : Int) = (ch t e' : Int) := by rw [ch_in t e' i2]
        have hj' : (j = p + 1 ∧ (e' = p ∨ Tr (ch t e'))) ∨ (j = e' + 1 ∧ ¬ Tr (ch t e')) := by
          rcases HJ.out with ⟨h7, h8⟩ | ⟨h7, h8⟩
          · exact .inl ⟨h7, h8.imp (fun h => by omega) (fun h => by simpa using h)⟩
          · exact .inr ⟨h7, by simpa using h8⟩
        have HJ' := Lib.hid hj'
        rw [wrap32_byte, hby]
        have HLq := Lib.hid (HL.out.drewN nq)
        have HBq := Lib.hid (below_dn HBw.out nq)
        clear hby hj' d2 d6 d10 HL HBw HJ HM HE
        generalize wc.drewN nq = W at *
        go_wp2_with fail
        go_loopg [470] (e' - p) (fun k x470 wr => ∃ p' : Nat, LexI B b t p' p n m wr ∧ Below B w wr ∧ p' - (p + 1) ≤ k ∧ p + 1 ≤ p' ∧ p' ≤ e' + 1 ∧ (¬ Tr (ch t e') → p' = e' + 1))
        case atStart => exact ⟨e' + 1, HLq.out, HBq.out, by omega, by omega, Nat.le_refl _, fun _ => rfl⟩
        case round =>
          clear HLq HBq
          obtain ⟨p', hL, hBw, hk, hpp, hpe, htr⟩ := hrel
          obtain ⟨d2, d6, d10⟩ := hL.cells
          have HL := Lib.hid hL
          have HBw := Lib.hid hBw
          have HK := Lib.hid hk
          have HT := Lib.hid htr
          clear hL hBw hk htr
          by_cases hlt : p + 1 < p'
          · have hd : decide ((p : Int) + 1 < (p' : Int)) = true := by simp; omega
            by_cases hTr : Tr (ch t e')
            · as_aux_lemma =>
              obtain ⟨p2, rfl⟩ : ∃ p2, p' = p2 + 1 := ⟨p' - 1, by omega⟩
              have HTr := Lib.hid hTr
              have hfz := HL.out.frz
              have hp2 : p < p2 := by omega
              have hd2 : decide (p < p2) = true := by simp; omega
              go_wp2_with fail
              go_quiet (fail)
              clear hlt
              unfold Tr at hTr
              have hput := (HL.out.drewN nq).putP p2 (by omega) (by have := HL.out.bounds; omega)
              have HP := Lib.hid hput
              have HBp : Hid (Below B w ((wr.drewN nq).setCell ⟨b, 10, none⟩ (.int .i64 (p2 : Int)))) := Lib.hid ((below_dn HBw.out nq).setCell HL.out.base _)
              clear hput HL HBw
              rcases hTr with h | h | h | h | h
              · have y1 : ((ch t e' : Int) == 43) = true := by rw [h]; decide
                clear h
                go_wp2_with fail
                have hk' := HK.out
                have ht' := HT.out
                go_roundg (gk - 1)
                case measure => omega
                case rel => exact ⟨p2, HP.out, HBp.out, by omega, by omega, by omega, fun h => absurd HTr.out h⟩
              · have y1 : ((ch t e' : Int) == 43) = false := by rw [h]; decide
                have y2 : ((ch t e' : Int) == 45) = true := by rw [h]; decide
                clear h
                go_wp2_with fail
                have hk' := HK.out
                have ht' := HT.out
                go_roundg (gk - 1)
                case measure => omega
                case rel => exact ⟨p2, HP.out, HBp.out, by omega, by omega, by omega, fun h => absurd HTr.out h⟩
              · have y1 : ((ch t e' : Int) == 43) = false := by rw [h]; decide
                have y2 : ((ch t e' : Int) == 45) = false := by rw [h]; decide
                have y3 : ((ch t e' : Int) == 126) = true := by rw [h]; decide
                clear h
                go_wp2_with fail
                have hk' := HK.out
                have ht' := HT.out
                go_roundg (gk - 1)
                case measure => omega
                case rel => exact ⟨p2, HP.out, HBp.out, by omega, by omega, by omega, fun h => absurd HTr.out h⟩
              · have y1 : ((ch t e' : Int) == 43) = false := by rw [h]; decide
                have y2 : ((ch t e' : Int) == 45) = false := by rw [h]; decide
                have y3 : ((ch t e' : Int) == 126) = false := by rw [h]; decide
                have y4 : ((ch t e' : Int) == 33) = true := by rw [h]; decide
                clear h
                go_wp2_with fail
                have hk' := HK.out
                have ht' := HT.out
                go_roundg (gk - 1)
                case measure => omega
                case rel => exact ⟨p2, HP.out, HBp.out, by omega, by omega, by omega, fun h => absurd HTr.out h⟩
              · have y1 : ((ch t e' : Int) == 43) = false := by rw [h]; decide
                have y2 : ((ch t e' : Int) == 45) = false := by rw [h]; decide
                have y3 : ((ch t e' : Int) == 126) = false := by rw [h]; decide
                have y4 : ((ch t e' : Int) == 33) = false := by rw [h]; decide
                have y5 : ((ch t e' : Int) == 36) = true := by rw [h]; decide
                clear h
                go_wp2_with fail
                have hk' := HK.out
                have ht' := HT.out
                go_roundg (gk - 1)
                case measure => omega
                case rel => exact ⟨p2, HP.out, HBp.out, by omega, by omega, by omega, fun h => absurd HTr.out h⟩
            · as_aux_lemma =>
              have y1 : ((ch t e' : Int) == 43) = false := beq_eq_false_iff_ne.2 (by unfold Tr at hTr; omega)
              have y2 : ((ch t e' : Int) == 45) = false := beq_eq_false_iff_ne.2 (by unfold Tr at hTr; omega)
              have y3 : ((ch t e' : Int) == 126) = false := beq_eq_false_iff_ne.2 (by unfold Tr at hTr; omega)
              have y4 : ((ch t e' : Int) == 33) = false := beq_eq_false_iff_ne.2 (by unfold Tr at hTr; omega)
              have y5 : ((ch t e' : Int) == 36) = false := beq_eq_false_iff_ne.2 (by unfold Tr at hTr; omega)
              obtain rfl : p' = j := by
                have := HT.out hTr
                rcases HJ'.out with ⟨h7, h8 | h8⟩ | ⟨h7, h8⟩
                · omega
                · exact absurd h8 hTr
                · omega
              clear hTr hlt
              go_wp2_with fail
              go_quiet (fail)
              have hL5 := HL.out.drewN nq
              have hb5 := below_dn HBw.out nq
              clear d2 d6 d10 HL HBw
              generalize wr.drewN nq = W5 at *
              go_wp2_with fail
              obtain ⟨d2, d6, d10⟩ := hL5.cells
              have HL5 := Lib.hid hL5
              have HB5 := Lib.hid hb5
              have hj1 := HL5.out.bounds.1
              have k1 : (0 : Int) ≤ (p : Int) := by omega
              have k2 : (p : Int) ≤ (p' : Int) := by omega
              have k3 : (p' : Int) ≤ (t.size : Int) := by omega
              clear hL5 hb5
              go_quiet (fail)
              clear d2 d6 d10
              go_wp2_with (first
                | (go_at_call 30; refine (emitToken_any B b t p' p n m _ ?_ hn _).mono ?_; exact HL5.out.drewN nq; rintro e6 w6 ⟨rfl, hL6, hb6⟩))
              all_goals
                go_ret
                exact ⟨rfl, hL6, (below_dn HB5.out _).trans hb6⟩
          · as_aux_lemma =>
            obtain rfl : p' = p + 1 := by omega
            have hjp : j = p + 1 := by
              rcases HJ'.out with ⟨h7, _⟩ | ⟨h7, h8⟩
              · exact h7
              · have := HT.out h8; omega
            subst hjp
            have hd : decide ((p : Int) + 1 < ((p + 1 : Nat) : Int)) = false := by simp
            clear hlt
            go_wp2_with fail
            go_quiet (fail)
            have hL5 := HL.out.drewN nq
            have hb5 := below_dn HBw.out nq
            clear d2 d6 d10 HL HBw
            generalize wr.drewN nq = W5 at *
            go_wp2_with fail
            obtain ⟨d2, d6, d10⟩ := hL5.cells
            have HL5 := Lib.hid hL5
            have HB5 := Lib.hid hb5
            have hj1 := HL5.out.bounds.1
            have k1 : (0 : Int) ≤ (p : Int) := by omega
            have k2 : (p : Int) ≤ ((p + 1 : Nat) : Int) := by omega
            have k3 : ((p + 1 : Nat) : Int) ≤ (t.size : Int) := by omega
            clear hL5 hb5
            go_quiet (fail)
            clear d2 d6 d10
            go_wp2_with (first
              | (go_at_call 30; refine (emitToken_any B b t (p + 1) p n m _ ?_ hn _).mono ?_; exact HL5.out.drewN nq; rintro e6 w6 ⟨rfl, hL6, hb6⟩))
            all_goals
              go_ret
              exact ⟨rfl, hL6, (below_dn HB5.out _).trans hb6⟩
  · by_cases h124 : ch t p = 124
    · have hpf := hp2_f (t := t) (p := p + 1) (fun h4 => h3 ⟨h124, h4.1, h4.2⟩)
      have HR1' : Hid (rv t p = 124) := Lib.hid (by rw [HR1.out, h124]; rfl)
      clear h1 h2 h3 h47 h124 x35 HR1
      go_enter Tryz.func39, Tryz.ntmps39
      go_wp2_with (first
        | (go_at_call 27; refine (next_r H0.out HR1'.out).mono ?_; rintro e w1 ⟨rfl, hL1, hb1⟩; rw [HX1.out] at hL1))
      have HL1 := Lib.hid hL1
      have HB1 := Lib.hid hb1
      obtain ⟨d2, _, d10⟩ := hL1.cells
      have i1 : (0 : Int) ≤ ((p + 1 : Nat) : Int) := by omega
      have i2 : ((p + 1 : Nat) : Int) ≤ (t.size : Int) := by omega
      clear hL1 hb1 d9
      go_quiet ((go_at_call 64; exact Calls.quiet_of_same (Tryz.strings_HasPrefix _ _ _)))
      clear d2 d10 HR1' H0
      as_aux_lemma =>
        have HLq := Lib.hid (HL1.out.drewN nq)
        have HBq := Lib.hid (below_dn HB1.out nq)
        clear HL1 HB1
        go_upto_block 18 with (first
          | (go_at_call 26; refine (peek_l HLq.out rfl).mono ?_; rintro e3 w3 ⟨rfl, hL3, hb3⟩))
        have hb4 := HBq.out.trans hb3
        have HL3 := Lib.hid hL3
        have HB4 := Lib.hid hb4
        clear hL3 hb3 hb4 HLq HBq
        go_cut [4] (fun s4 wx => LexI B b t e p n m wx ∧ Below B w wx)
        case first =>
          go_wp2_with fail
          go_loopg [4] (e - (p + 1)) (fun k x4 wr => ∃ p' : Nat, x4 = .int .i32 (rv t p') ∧ LexI B b t p' p n m wr ∧ Below B w wr ∧ e - p' ≤ k ∧ p + 1 ≤ p' ∧ p' ≤ e)
          case atStart => exact ⟨p + 1, rfl, HL3.out, HB4.out, Nat.le_refl _, Nat.le_refl _, he⟩
          case round =>
            clear HL3 HB4
            obtain ⟨p', rfl, hL, hBw, hk, hpp, hpe⟩ := hrel
            have HL := Lib.hid hL
            have HBw := Lib.hid hBw
            have HK := Lib.hid hk
            clear hL hBw hk
            by_cases hlt : p' < e
            · obtain ⟨ho, hn47, hn124⟩ := HM.out p' (by omega) hlt
              obtain ⟨hr, hx, _⟩ := rv_low t p' (by unfold Op at ho; omega)
              have hs : syB (rv t p') = true := by simp [syB]; exact (op_of t p').2 ho
              rw [hr] at hs ⊢
              have HX := Lib.hid hx
              have x47 : ((ch t p' : Int) == 47) = false := beq_eq_false_iff_ne.2 (by omega)
              clear ho hn47 hr hx
              by_cases h124 : ch t p' = 124
              · as_aux_lemma =>
                have hpf := hp2_f hn124
                rw [h124] at hs ⊢
                clear h124 hn124 x47
                have i1 : (0 : Int) ≤ (p' : Int) := by omega
                have i2 : (p' : Int) ≤ (t.size : Int) := by omega
                go_wp2_with (first
                  | (go_at_call 38; refine (isSymbol_any _ _).mono ?_; rintro e2 w2 ⟨rfl, rfl⟩))
                go_quiet (fail)
                have HLa := Lib.hid (HL.out.drewN nq)
                have HBa := Lib.hid (below_dn HBw.out nq)
                clear HL HBw
                generalize wr.drewN nq = W1 at *
                go_wp2_with fail
                go_quiet (fail)
                have HLb := Lib.hid (HLa.out.drewN nq)
                have HBb := Lib.hid (below_dn HBa.out nq)
                clear HLa HBa
                generalize W1.drewN nq = W2 at *
                obtain ⟨d2, _, d10⟩ := HLb.out.cells
                go_wp2_with fail
                go_quiet ((go_at_call 64; exact Calls.quiet_of_same (Tryz.strings_HasPrefix _ _ _)))
                clear d2 d10
                have HLc := Lib.hid (HLb.out.drewN nq)
                have HBc := Lib.hid (below_dn HBb.out nq)
                clear HLb HBb
                generalize W2.drewN nq = W3 at *
                go_wp2_with (first
                  | (go_at_call 27; refine (next_r HLc.out rfl).mono ?_; rintro e2 w2 ⟨rfl, hL2, hb2⟩; rw [HX.out] at hL2)
                  | (go_at_call 26; refine (peek_l hL2 rfl).mono ?_; rintro e3 w3 ⟨rfl, hL3, hb3⟩))
                have hk' := HK.out
                go_roundg (gk - 1)
                case measure => omega
                case rel => exact ⟨p' + 1, rfl, hL3, (HBc.out.trans hb2).trans hb3, by omega, by omega, by omega⟩
              · as_aux_lemma =>
                have x124 : ((ch t p' : Int) == 124) = false := beq_eq_false_iff_ne.2 (by omega)
                clear h124 hn124
                go_wp2_with (first
                  | (go_at_call 38; refine (isSymbol_any _ _).mono ?_; rintro e2 w2 ⟨rfl, rfl⟩))
                go_quiet (fail)
                have HLa := Lib.hid (HL.out.drewN nq)
                have HBa := Lib.hid (below_dn HBw.out nq)
                clear HL HBw
                generalize wr.drewN nq = W1 at *
                go_wp2_with fail
                go_quiet (fail)
                have HLb := Lib.hid (HLa.out.drewN nq)
                have HBb := Lib.hid (below_dn HBa.out nq)
                clear HLa HBa
                generalize W1.drewN nq = W2 at *
                go_wp2_with fail
                go_quiet (fail)
                have HLc := Lib.hid (HLb.out.drewN nq)
                have HBc := Lib.hid (below_dn HBb.out nq)
                clear HLb HBb
                generalize W2.drewN nq = W3 at *
                go_wp2_with (first
                  | (go_at_call 27; refine (next_r HLc.out rfl).mono ?_; rintro e2 w2 ⟨rfl, hL2, hb2⟩; rw [HX.out] at hL2)
                  | (go_at_call 26; refine (peek_l hL2 rfl).mono ?_; rintro e3 w3 ⟨rfl, hL3, hb3⟩))
                have hk' := HK.out
                go_roundg (gk - 1)
                case measure => omega
                case rel => exact ⟨p' + 1, rfl, hL3, (HBc.out.trans hb2).trans hb3, by omega, by omega, by omega⟩
            · obtain rfl : e = p' := by omega
              by_cases hop : ch t e = 47
              · as_aux_lemma =>
                have hpf := hp1_t (t := t) (p := e) 47 hop
                have hr : rv t e = 47 := (rv_eq t e 47 (by omega)).2 hop
                have hs : syB 47 = true := by decide
                rw [hr]
                clear hop hr
                have i1 : (0 : Int) ≤ (e : Int) := by omega
                have i2 : (e : Int) ≤ (t.size : Int) := by omega
                obtain ⟨d2, _, d10⟩ := HL.out.cells
                go_wp2_with (first
                  | (go_at_call 38; refine (isSymbol_any _ _).mono ?_; rintro e2 w2 ⟨rfl, rfl⟩))
                go_quiet ((go_at_call 64; exact Calls.quiet_of_same (Tryz.strings_HasPrefix _ _ _)))
                clear d2 d10
                go_wp2_with fail
                go_meet
                exact ⟨HL.out.drewN nq, below_dn HBw.out nq⟩
              · as_aux_lemma =>
                have hs : syB (rv t e) = false := by
                  simp only [syB, decide_eq_false_iff_not]
                  intro h7
                  rcases HE.out with h8 | h8
                  · exact h8 ((op_of t e).1 h7)
                  · exact hop h8
                generalize rv t e = r at hs ⊢
                clear hop
                go_wp2_with (first
                  | (go_at_call 38; refine (isSymbol_any _ _).mono ?_; rintro e2 w2 ⟨rfl, rfl⟩))
                go_meet
                exact ⟨HL.out, HBw.out⟩
        case rest =>
          obtain ⟨hL, hBw⟩ := hcut
          clear HL3 HB4
          obtain ⟨d2, d6, d10⟩ := hL.cells
          have HL := Lib.hid hL
          have HBw := Lib.hid hBw
          obtain ⟨e', rfl⟩ : ∃ e', e = e' + 1 := ⟨e - 1, by omega⟩
          have i1 : (0 : Int) ≤ (e' : Int) := by omega
          have i2 : e' < t.size := by omega
          clear hL hBw
          go_wp2_with fail
          go_quiet (fail)
          have hby : (t[e'].toNat : Int) = (ch t e' : Int) := by rw [ch_in t e' i2]
          have hj' : (j = p + 1 ∧ (e' = p ∨ Tr (ch t e'))) ∨ (j = e' + 1 ∧ ¬ Tr (ch t e')) := by
            rcases HJ.out with ⟨h7, h8⟩ | ⟨h7, h8⟩
            · exact .inl ⟨h7, h8.imp (fun h => by omega) (fun h => by simpa using h)⟩
            · exact .inr ⟨h7, by simpa using h8⟩
          have HJ' := Lib.hid hj'
          rw [wrap32_byte, hby]
          have HLq := Lib.hid (HL.out.drewN nq)
          have HBq := Lib.hid (below_dn HBw.out nq)
          clear hby hj' d2 d6 d10 HL HBw HJ HM HE
          generalize wc.drewN nq = W at *
          go_wp2_with fail
          go_loopg [470] (e' - p) (fun k x470 wr => ∃ p' : Nat, LexI B b t p' p n m wr ∧ Below B w wr ∧ p' - (p + 1) ≤ k ∧ p + 1 ≤ p' ∧ p' ≤ e' + 1 ∧ (¬ Tr (ch t e') → p' = e' + 1))
          case atStart => exact ⟨e' + 1, HLq.out, HBq.out, by omega, by omega, Nat.le_refl _, fun _ => rfl⟩
          case round =>
            clear HLq HBq
            obtain ⟨p', hL, hBw, hk, hpp, hpe, htr⟩ := hrel
            obtain ⟨d2, d6, d10⟩ := hL.cells
            have HL := Lib.hid hL
            have HBw := Lib.hid hBw
            have HK := Lib.hid hk
            have HT := Lib.hid htr
            clear hL hBw hk htr
            by_cases hlt : p + 1 < p'
            · have hd : decide ((p : Int) + 1 < (p' : Int)) = true := by simp; omega
              by_cases hTr : Tr (ch t e')
              · as_aux_lemma =>
                obtain ⟨p2, rfl⟩ : ∃ p2, p' = p2 + 1 := ⟨p' - 1, by omega⟩
                have HTr := Lib.hid hTr
                have hfz := HL.out.frz
                have hp2 : p < p2 := by omega
                have hd2 : decide (p < p2) = true := by simp; omega
                go_wp2_with fail
                go_quiet (fail)
                clear hlt
                unfold Tr at hTr
                have hput := (HL.out.drewN nq).putP p2 (by omega) (by have := HL.out.bounds; omega)
                have HP := Lib.hid hput
                have HBp : Hid (Below B w ((wr.drewN nq).setCell ⟨b, 10, none⟩ (.int .i64 (p2 : Int)))) := Lib.hid ((below_dn HBw.out nq).setCell HL.out.base _)
                clear hput HL HBw
                rcases hTr with h | h | h | h | h
                · have y1 : ((ch t e' : Int) == 43) = true := by rw [h]; decide
                  clear h
                  go_wp2_with fail
                  have hk' := HK.out
                  have ht' := HT.out
                  go_roundg (gk - 1)
                  case measure => omega
                  case rel => exact ⟨p2, HP.out, HBp.out, by omega, by omega, by omega, fun h => absurd HTr.out h⟩
                · have y1 : ((ch t e' : Int) == 43) = false := by rw [h]; decide
                  have y2 : ((ch t e' : Int) == 45) = true := by rw [h]; decide
                  clear h
                  go_wp2_with fail
                  have hk' := HK.out
                  have ht' := HT.out
                  go_roundg (gk - 1)
                  case measure => omega
                  case rel => exact ⟨p2, HP.out, HBp.out, by omega, by omega, by omega, fun h => absurd HTr.out h⟩
                · have y1 : ((ch t e' : Int) == 43) = false := by rw [h]; decide
                  have y2 : ((ch t e' : Int) == 45) = false := by rw [h]; decide
                  have y3 : ((ch t e' : Int) == 126) = true := by rw [h]; decide
                  clear h
                  go_wp2_with fail
                  have hk' := HK.out
                  have ht' := HT.out
                  go_roundg (gk - 1)
                  case measure => omega
                  case rel => exact ⟨p2, HP.out, HBp.out, by omega, by omega, by omega, fun h => absurd HTr.out h⟩
                · have y1 : ((ch t e' : Int) == 43) = false := by rw [h]; decide
                  have y2 : ((ch t e' : Int) == 45) = false := by rw [h]; decide
                  have y3 : ((ch t e' : Int) == 126) = false := by rw [h]; decide
                  have y4 : ((ch t e' : Int) == 33) = true := by rw [h]; decide
                  clear h
                  go_wp2_with fail
                  have hk' := HK.out
                  have ht' := HT.out
                  go_roundg (gk - 1)
                  case measure => omega
                  case rel => exact ⟨p2, HP.out, HBp.out, by omega, by omega, by omega, fun h => absurd HTr.out h⟩
                · have y1 : ((ch t e' : Int) == 43) = false := by rw [h]; decide
                  have y2 : ((ch t e' : Int) == 45) = false := by rw [h]; decide
                  have y3 : ((ch t e' : Int) == 126) = false := by rw [h]; decide
                  have y4 : ((ch t e' : Int) == 33) = false := by rw [h]; decide
                  have y5 : ((ch t e' : Int) == 36) = true := by rw [h]; decide
                  clear h
                  go_wp2_with fail
                  have hk' := HK.out
                  have ht' := HT.out
                  go_roundg (gk - 1)
                  case measure => omega
                  case rel => exact ⟨p2, HP.out, HBp.out, by omega, by omega, by omega, fun h => absurd HTr.out h⟩
              · as_aux_lemma =>
                have y1 : ((ch t e' : Int) == 43) = false := beq_eq_false_iff_ne.2 (by unfold Tr at hTr; omega)
                have y2 : ((ch t e' : Int) == 45) = false := beq_eq_false_iff_ne.2 (by unfold Tr at hTr; omega)
                have y3 : ((ch t e' : Int) == 126) = false := beq_eq_false_iff_ne.2 (by unfold Tr at hTr; omega)
                have y4 : ((ch t e' : Int) == 33) = false := beq_eq_false_iff_ne.2 (by unfold Tr at hTr; omega)
                have y5 : ((ch t e' : Int) == 36) = false := beq_eq_false_iff_ne.2 (by unfold Tr at hTr; omega)
                obtain rfl : p' = j := by
                  have := HT.out hTr
                  rcases HJ'.out with ⟨h7, h8 | h8⟩ | ⟨h7, h8⟩
                  · omega
                  · exact absurd h8 hTr
                  · omega
                clear hTr hlt
                go_wp2_with fail
                go_quiet (fail)
                have hL5 := HL.out.drewN nq
                have hb5 := below_dn HBw.out nq
                clear d2 d6 d10 HL HBw
                generalize wr.drewN nq = W5 at *
                go_wp2_with fail
                obtain ⟨d2, d6, d10⟩ := hL5.cells
                have HL5 := Lib.hid hL5
                have HB5 := Lib.hid hb5
                have hj1 := HL5.out.bounds.1
                have k1 : (0 : Int) ≤ (p : Int) := by omega
                have k2 : (p : Int) ≤ (p' : Int) := by omega
                have k3 : (p' : Int) ≤ (t.size : Int) := by omega
                clear hL5 hb5
                go_quiet (fail)
                clear d2 d6 d10
                go_wp2_with (first
                  | (go_at_call 30; refine (emitToken_any B b t p' p n m _ ?_ hn _).mono ?_; exact HL5.out.drewN nq; rintro e6 w6 ⟨rfl, hL6, hb6⟩))
                all_goals
                  go_ret
                  exact ⟨rfl, hL6, (below_dn HB5.out _).trans hb6⟩
            · as_aux_lemma =>
              obtain rfl : p' = p + 1 := by omega
              have hjp : j = p + 1 := by
                rcases HJ'.out with ⟨h7, _⟩ | ⟨h7, h8⟩
                · exact h7
                · have := HT.out h8; omega
              subst hjp
              have hd : decide ((p : Int) + 1 < ((p + 1 : Nat) : Int)) = false := by simp
              clear hlt
              go_wp2_with fail
              go_quiet (fail)
              have hL5 := HL.out.drewN nq
              have hb5 := below_dn HBw.out nq
              clear d2 d6 d10 HL HBw
              generalize wr.drewN nq = W5 at *
              go_wp2_with fail
              obtain ⟨d2, d6, d10⟩ := hL5.cells
              have HL5 := Lib.hid hL5
              have HB5 := Lib.hid hb5
              have hj1 := HL5.out.bounds.1
              have k1 : (0 : Int) ≤ (p : Int) := by omega
              have k2 : (p : Int) ≤ ((p + 1 : Nat) : Int) := by omega
              have k3 : ((p + 1 : Nat) : Int) ≤ (t.size : Int) := by omega
              clear hL5 hb5
              go_quiet (fail)
              clear d2 d6 d10
              go_wp2_with (first
                | (go_at_call 30; refine (emitToken_any B b t (p + 1) p n m _ ?_ hn _).mono ?_; exact HL5.out.drewN nq; rintro e6 w6 ⟨rfl, hL6, hb6⟩))
              all_goals
                go_ret
                exact ⟨rfl, hL6, (below_dn HB5.out _).trans hb6⟩
    · have x47 : ((ch t p : Int) == 47) = false := beq_eq_false_iff_ne.2 (by omega)
      have x124 : ((ch t p : Int) == 124) = false := beq_eq_false_iff_ne.2 (by omega)
      clear h1 h2 h3 h47 h124
      go_enter Tryz.func39, Tryz.ntmps39
      go_wp2_with (first
        | (go_at_call 27; refine (next_r H0.out HR1.out).mono ?_; rintro e w1 ⟨rfl, hL1, hb1⟩; rw [HX1.out] at hL1))
      have HL1 := Lib.hid hL1
      have HB1 := Lib.hid hb1
      clear hL1 hb1 d9 HR1 H0
      go_quiet (fail)
      as_aux_lemma =>
        have HLq := Lib.hid (HL1.out.drewN nq)
        have HBq := Lib.hid (below_dn HB1.out nq)
        clear HL1 HB1
        go_upto_block 18 with (first
          | (go_at_call 26; refine (peek_l HLq.out rfl).mono ?_; rintro e3 w3 ⟨rfl, hL3, hb3⟩))
        have hb4 := HBq.out.trans hb3
        have HL3 := Lib.hid hL3
        have HB4 := Lib.hid hb4
        clear hL3 hb3 hb4 HLq HBq
        go_cut [4] (fun s4 wx => LexI B b t e p n m wx ∧ Below B w wx)
        case first =>
          go_wp2_with fail
          go_loopg [4] (e - (p + 1)) (fun k x4 wr => ∃ p' : Nat, x4 = .int .i32 (rv t p') ∧ LexI B b t p' p n m wr ∧ Below B w wr ∧ e - p' ≤ k ∧ p + 1 ≤ p' ∧ p' ≤ e)
          case atStart => exact ⟨p + 1, rfl, HL3.out, HB4.out, Nat.le_refl _, Nat.le_refl _, he⟩
          case round =>
            clear HL3 HB4
            obtain ⟨p', rfl, hL, hBw, hk, hpp, hpe⟩ := hrel
            have HL := Lib.hid hL
            have HBw := Lib.hid hBw
            have HK := Lib.hid hk
            clear hL hBw hk
            by_cases hlt : p' < e
            · obtain ⟨ho, hn47, hn124⟩ := HM.out p' (by omega) hlt
              obtain ⟨hr, hx, _⟩ := rv_low t p' (by unfold Op at ho; omega)
              have hs : syB (rv t p') = true := by simp [syB]; exact (op_of t p').2 ho
              rw [hr] at hs ⊢
              have HX := Lib.hid hx
              have x47 : ((ch t p' : Int) == 47) = false := beq_eq_false_iff_ne.2 (by omega)
              clear ho hn47 hr hx
              by_cases h124 : ch t p' = 124
              · as_aux_lemma =>
                have hpf := hp2_f hn124
                rw [h124] at hs ⊢
                clear h124 hn124 x47
                have i1 : (0 : Int) ≤ (p' : Int) := by omega
                have i2 : (p' : Int) ≤ (t.size : Int) := by omega
                go_wp2_with (first
                  | (go_at_call 38; refine (isSymbol_any _ _).mono ?_; rintro e2 w2 ⟨rfl, rfl⟩))
                go_quiet (fail)
                have HLa := Lib.hid (HL.out.drewN nq)
                have HBa := Lib.hid (below_dn HBw.out nq)
                clear HL HBw
                generalize wr.drewN nq = W1 at *
                go_wp2_with fail
                go_quiet (fail)
                have HLb := Lib.hid (HLa.out.drewN nq)
                have HBb := Lib.hid (below_dn HBa.out nq)
                clear HLa HBa
                generalize W1.drewN nq = W2 at *
                obtain ⟨d2, _, d10⟩ := HLb.out.cells
                go_wp2_with fail
                go_quiet ((go_at_call 64; exact Calls.quiet_of_same (Tryz.strings_HasPrefix _ _ _)))
                clear d2 d10
                have HLc := Lib.hid (HLb.out.drewN nq)
                have HBc := Lib.hid (below_dn HBb.out nq)
                clear HLb HBb
                generalize W2.drewN nq = W3 at *
                go_wp2_with (first
                  | (go_at_call 27; refine (next_r HLc.out rfl).mono ?_; rintro e2 w2 ⟨rfl, hL2, hb2⟩; rw [HX.out] at hL2)
                  | (go_at_call 26; refine (peek_l hL2 rfl).mono ?_; rintro e3 w3 ⟨rfl, hL3, hb3⟩))
                have hk' := HK.out
                go_roundg (gk - 1)
                case measure => omega
                case rel => exact ⟨p' + 1, rfl, hL3, (HBc.out.trans hb2).trans hb3, by omega, by omega, by omega⟩
              · as_aux_lemma =>
                have x124 : ((ch t p' : Int) == 124) = false := beq_eq_false_iff_ne.2 (by omega)
                clear h124 hn124
                go_wp2_with (first
                  | (go_at_call 38; refine (isSymbol_any _ _).mono ?_; rintro e2 w2 ⟨rfl, rfl⟩))
                go_quiet (fail)
                have HLa := Lib.hid (HL.out.drewN nq)
                have HBa := Lib.hid (below_dn HBw.out nq)
                clear HL HBw
                generalize wr.drewN nq = W1 at *
                go_wp2_with fail
                go_quiet (fail)
                have HLb := Lib.hid (HLa.out.drewN nq)
                have HBb := Lib.hid (below_dn HBa.out nq)
                clear HLa HBa
                generalize W1.drewN nq = W2 at *
                go_wp2_with fail
                go_quiet (fail)
                have HLc := Lib.hid (HLb.out.drewN nq)
                have HBc := Lib.hid (below_dn HBb.out nq)
                clear HLb HBb
                generalize W2.drewN nq = W3 at *
                go_wp2_with (first
                  | (go_at_call 27; refine (next_r HLc.out rfl).mono ?_; rintro e2 w2 ⟨rfl, hL2, hb2⟩; rw [HX.out] at hL2)
                  | (go_at_call 26; refine (peek_l hL2 rfl).mono ?_; rintro e3 w3 ⟨rfl, hL3, hb3⟩))
                have hk' := HK.out
                go_roundg (gk - 1)
                case measure => omega
                case rel => exact ⟨p' + 1, rfl, hL3, (HBc.out.trans hb2).trans hb3, by omega, by omega, by omega⟩
            · obtain rfl : e = p' := by omega
              by_cases hop : ch t e = 47
              · as_aux_lemma =>
                have hpf := hp1_t (t := t) (p := e) 47 hop
                have hr : rv t e = 47 := (rv_eq t e 47 (by omega)).2 hop
                have hs : syB 47 = true := by decide
                rw [hr]
                clear hop hr
                have i1 : (0 : Int) ≤ (e : Int) := by omega
                have i2 : (e : Int) ≤ (t.size : Int) := by omega
                obtain ⟨d2, _, d10⟩ := HL.out.cells
                go_wp2_with (first
                  | (go_at_call 38; refine (isSymbol_any _ _).mono ?_; rintro e2 w2 ⟨rfl, rfl⟩))
                go_quiet ((go_at_call 64; exact Calls.quiet_of_same (Tryz.strings_HasPrefix _ _ _)))
                clear d2 d10
                go_wp2_with fail
                go_meet
                exact ⟨HL.out.drewN nq, below_dn HBw.out nq⟩
              · as_aux_lemma =>
                have hs : syB (rv t e) = false := by
                  simp only [syB, decide_eq_false_iff_not]
                  intro h7
                  rcases HE.out with h8 | h8
                  · exact h8 ((op_of t e).1 h7)
                  · exact hop h8
                generalize rv t e = r at hs ⊢
                clear hop
                go_wp2_with (first
                  | (go_at_call 38; refine (isSymbol_any _ _).mono ?_; rintro e2 w2 ⟨rfl, rfl⟩))
                go_meet
                exact ⟨HL.out, HBw.out⟩
        case rest =>
          obtain ⟨hL, hBw⟩ := hcut
          clear HL3 HB4
          obtain ⟨d2, d6, d10⟩ := hL.cells
          have HL := Lib.hid hL
          have HBw := Lib.hid hBw
          obtain ⟨e', rfl⟩ : ∃ e', e = e' + 1 := ⟨e - 1, by omega⟩
          have i1 : (0 : Int) ≤ (e' : Int) := by omega
          have i2 : e' < t.size := by omega
          clear hL hBw
          go_wp2_with fail
          go_quiet (fail)
          have hby : (t[e'].toNat : Int) = (ch t e' : Int) := by rw [ch_in t e' i2]
          have hj' : (j = p + 1 ∧ (e' = p ∨ Tr (ch t e'))) ∨ (j = e' + 1 ∧ ¬ Tr (ch t e')) := by
            rcases HJ.out with ⟨h7, h8⟩ | ⟨h7, h8⟩
            · exact .inl ⟨h7, h8.imp (fun h => by omega) (fun h => by simpa using h)⟩
            · exact .inr ⟨h7, by simpa using h8⟩
          have HJ' := Lib.hid hj'
          rw [wrap32_byte, hby]
          have HLq := Lib.hid (HL.out.drewN nq)
          have HBq := Lib.hid (below_dn HBw.out nq)
          clear hby hj' d2 d6 d10 HL HBw HJ HM HE
          generalize wc.drewN nq = W at *
          go_wp2_with fail
          go_loopg [470] (e' - p) (fun k x470 wr => ∃ p' : Nat, LexI B b t p' p n m wr ∧ Below B w wr ∧ p' - (p + 1) ≤ k ∧ p + 1 ≤ p' ∧ p' ≤ e' + 1 ∧ (¬ Tr (ch t e') → p' = e' + 1))
          case atStart => exact ⟨e' + 1, HLq.out, HBq.out, by omega, by omega, Nat.le_refl _, fun _ => rfl⟩
          case round =>
            clear HLq HBq
            obtain ⟨p', hL, hBw, hk, hpp, hpe, htr⟩ := hrel
            obtain ⟨d2, d6, d10⟩ := hL.cells
            have HL := Lib.hid hL
            have HBw := Lib.hid hBw
            have HK := Lib.hid hk
            have HT := Lib.hid htr
            clear hL hBw hk htr
            by_cases hlt : p + 1 < p'
            · have hd : decide ((p : Int) + 1 < (p' : Int)) = true := by simp; omega
              by_cases hTr : Tr (ch t e')
              · as_aux_lemma =>
                obtain ⟨p2, rfl⟩ : ∃ p2, p' = p2 + 1 := ⟨p' - 1, by omega⟩
                have HTr := Lib.hid hTr
                have hfz := HL.out.frz
                have hp2 : p < p2 := by omega
                have hd2 : decide (p < p2) = true := by simp; omega
                go_wp2_with fail
                go_quiet (fail)
                clear hlt
                unfold Tr at hTr
                have hput := (HL.out.drewN nq).putP p2 (by omega) (by have := HL.out.bounds; omega)
                have HP := Lib.hid hput
                have HBp : Hid (Below B w ((wr.drewN nq).setCell ⟨b, 10, none⟩ (.int .i64 (p2 : Int)))) := Lib.hid ((below_dn HBw.out nq).setCell HL.out.base _)
                clear hput HL HBw
                rcases hTr with h | h | h | h | h
                · have y1 : ((ch t e' : Int) == 43) = true := by rw [h]; decide
                  clear h
                  go_wp2_with fail
                  have hk' := HK.out
                  have ht' := HT.out
                  go_roundg (gk - 1)
                  case measure => omega
                  case rel => exact ⟨p2, HP.out, HBp.out, by omega, by omega, by omega, fun h => absurd HTr.out h⟩
                · have y1 : ((ch t e' : Int) == 43) = false := by rw [h]; decide
                  have y2 : ((ch t e' : Int) == 45) = true := by rw [h]; decide
                  clear h
                  go_wp2_with fail
                  have hk' := HK.out
                  have ht' := HT.out
                  go_roundg (gk - 1)
                  case measure => omega
                  case rel => exact ⟨p2, HP.out, HBp.out, by omega, by omega, by omega, fun h => absurd HTr.out h⟩
                · have y1 : ((ch t e' : Int) == 43) = false := by rw [h]; decide
                  have y2 : ((ch t e' : Int) == 45) = false := by rw [h]; decide
                  have y3 : ((ch t e' : Int) == 126) = true := by rw [h]; decide
                  clear h
                  go_wp2_with fail
                  have hk' := HK.out
                  have ht' := HT.out
                  go_roundg (gk - 1)
                  case measure => omega
                  case rel => exact ⟨p2, HP.out, HBp.out, by omega, by omega, by omega, fun h => absurd HTr.out h⟩
                · have y1 : ((ch t e' : Int) == 43) = false := by rw [h]; decide
                  have y2 : ((ch t e' : Int) == 45) = false := by rw [h]; decide
                  have y3 : ((ch t e' : Int) == 126) = false := by rw [h]; decide
                  have y4 : ((ch t e' : Int) == 33) = true := by rw [h]; decide
                  clear h
                  go_wp2_with fail
                  have hk' := HK.out
                  have ht' := HT.out
                  go_roundg (gk - 1)
                  case measure => omega
                  case rel => exact ⟨p2, HP.out, HBp.out, by omega, by omega, by omega, fun h => absurd HTr.out h⟩
                · have y1 : ((ch t e' : Int) == 43) = false := by rw [h]; decide
                  have y2 : ((ch t e' : Int) == 45) = false := by rw [h]; decide
                  have y3 : ((ch t e' : Int) == 126) = false := by rw [h]; decide
                  have y4 : ((ch t e' : Int) == 33) = false := by rw [h]; decide
                  have y5 : ((ch t e' : Int) == 36) = true := by rw [h]; decide
                  clear h
                  go_wp2_with fail
                  have hk' := HK.out
                  have ht' := HT.out
                  go_roundg (gk - 1)
                  case measure => omega
                  case rel => exact ⟨p2, HP.out, HBp.out, by omega, by omega, by omega, fun h => absurd HTr.out h⟩
              · as_aux_lemma =>
                have y1 : ((ch t e' : Int) == 43) = false := beq_eq_false_iff_ne.2 (by unfold Tr at hTr; omega)
                have y2 : ((ch t e' : Int) == 45) = false := beq_eq_false_iff_ne.2 (by unfold Tr at hTr; omega)
                have y3 : ((ch t e' : Int) == 126) = false := beq_eq_false_iff_ne.2 (by unfold Tr at hTr; omega)
                have y4 : ((ch t e' : Int) == 33) = false := beq_eq_false_iff_ne.2 (by unfold Tr at hTr; omega)
                have y5 : ((ch t e' : Int) == 36) = false := beq_eq_false_iff_ne.2 (by unfold Tr at hTr; omega)
                obtain rfl : p' = j := by
                  have := HT.out hTr
                  rcases HJ'.out with ⟨h7, h8 | h8⟩ | ⟨h7, h8⟩
                  · omega
                  · exact absurd h8 hTr
                  · omega
                clear hTr hlt
                go_wp2_with fail
                go_quiet (fail)
                have hL5 := HL.out.drewN nq
                have hb5 := below_dn HBw.out nq
                clear d2 d6 d10 HL HBw
                generalize wr.drewN nq = W5 at *
                go_wp2_with fail
                obtain ⟨d2, d6, d10⟩ := hL5.cells
                have HL5 := Lib.hid hL5
                have HB5 := Lib.hid hb5
                have hj1 := HL5.out.bounds.1
                have k1 : (0 : Int) ≤ (p : Int) := by omega
                have k2 : (p : Int) ≤ (p' : Int) := by omega
                have k3 : (p' : Int) ≤ (t.size : Int) := by omega
                clear hL5 hb5
                go_quiet (fail)
                clear d2 d6 d10
                go_wp2_with (first
                  | (go_at_call 30; refine (emitToken_any B b t p' p n m _ ?_ hn _).mono ?_; exact HL5.out.drewN nq; rintro e6 w6 ⟨rfl, hL6, hb6⟩))
                all_goals
                  go_ret
                  exact ⟨rfl, hL6, (below_dn HB5.out _).trans hb6⟩
            · as_aux_lemma =>
              obtain rfl : p' = p + 1 := by omega
              have hjp : j = p + 1 := by
                rcases HJ'.out with ⟨h7, _⟩ | ⟨h7, h8⟩
                · exact h7
                · have := HT.out h8; omega
              subst hjp
              have hd : decide ((p : Int) + 1 < ((p + 1 : Nat) : Int)) = false := by simp
              clear hlt
              go_wp2_with fail
              go_quiet (fail)
              have hL5 := HL.out.drewN nq
              have hb5 := below_dn HBw.out nq
              clear d2 d6 d10 HL HBw
              generalize wr.drewN nq = W5 at *
              go_wp2_with fail
              obtain ⟨d2, d6, d10⟩ := hL5.cells
              have HL5 := Lib.hid hL5
              have HB5 := Lib.hid hb5
              have hj1 := HL5.out.bounds.1
              have k1 : (0 : Int) ≤ (p : Int) := by omega
              have k2 : (p : Int) ≤ ((p + 1 : Nat) : Int) := by omega
              have k3 : ((p + 1 : Nat) : Int) ≤ (t.size : Int) := by omega
              clear hL5 hb5
              go_quiet (fail)
              clear d2 d6 d10
              go_wp2_with (first
                | (go_at_call 30; refine (emitToken_any B b t (p + 1) p n m _ ?_ hn _).mono ?_; exact HL5.out.drewN nq; rintro e6 w6 ⟨rfl, hL6, hb6⟩))
              all_goals
                go_ret
                exact ⟨rfl, hL6, (below_dn HB5.out _).trans hb6⟩
end Go.Proofs.YtjjmgnllhihoeaaGreatFmt

/- A word. -/
import Derived.Test.YtjjmgnllhihoeaaGreatFmtWhite
set_option linter.unusedSimpArgs false
set_option linter.unusedVariables false
namespace Go.Proofs.YtjjmgnllhihoeaaGreatFmt
open Go.RowKit
attribute [local go_sem ↓] Go.wp_at_zero Go.wp_at_succ

set_option maxRecDepth 100000 in
set_option maxHeartbeats 6400000 in
theorem lexIdent_any (B b : Nat) (t : ByteArray) (p j ts n m : Nat) (w : World) (h : LexI B b t p ts n m w) (hn : n ≤ 200000) (h1 : Lt (ch t p)) (hpj : p < j) (hj : ∀ k, p ≤ k → k < j → Lt (ch t k) ∨ Dg (ch t k)) (hj1 : ¬ Lt (ch t j)) (hj2 : ¬ Dg (ch t j)) :
    Calls Tryz.prog 37 #[.pointer (some ⟨b, 0, none⟩)] w (EmitTP B b t j n w) := by
  have H0 := Lib.hid h
  have hB := h.base
  have hlt := h.lt
  have HJ := Lib.hid hj
  have HE : Hid (¬ Lt (ch t j) ∧ ¬ Dg (ch t j)) := Lib.hid ⟨hj1, hj2⟩
  have hif : ifB (rv t p) = true := by simp [ifB]; exact (if_of t p).2 h1
  clear h hj hj1 hj2 h1
  have hjs : j ≤ t.size := by
    rcases Nat.lt_or_ge t.size j with h | h
    · have := HJ.out (max p t.size) (by omega) (by omega)
      rw [ch_out t (max p t.size) (by omega)] at this
      unfold Lt Dg at this; omega
    · exact h
  go_enter Tryz.func37, Tryz.ntmps37
  go_wp2_with (first
    | (go_at_call 26; refine (peek_any B b t p ts n m _ H0.out).mono ?_; rintro e w1 ⟨rfl, hL1, hb1⟩)
    | (go_at_call 36; refine (isIF_any _ _).mono ?_; rintro e w2 ⟨rfl, rfl⟩))
  go_loopg [2] (j - p) (fun k x2 wr => ∃ p' : Nat, x2 = .int .i32 (rv t p') ∧ j - p' ≤ k ∧ LexI B b t p' ts n m wr ∧ w.grownBy wr (some b) ∧ p ≤ p' ∧ p' ≤ j)
  case atStart => exact ⟨p, rfl, Nat.le_refl _, hL1, Below.grownB hb1, Nat.le_refl _, Nat.le_of_lt hpj⟩
  case round =>
    clear hL1 hb1
    obtain ⟨p', rfl, hk, hL, hG, hpp, hpj'⟩ := hrel
    have HL := Lib.hid hL
    have HG := Lib.hid hG
    have HK := Lib.hid hk
    clear hk hL hG hif
    by_cases hlt' : p' < j
    · have hid := HJ.out p' hpp hlt'
      have hnx := (rv_low t p' (by unfold Lt Dg at hid; omega)).2.1
      have HN := Lib.hid hnx
      clear hnx
      have hb : idB (rv t p') = true := by simp [idB]; exact (id_of t p').2 hid
      have hne : (rv t p' != -1) = true := by
        have := (id_of t p').2 hid
        unfold idP ifP upP loP nuP at this
        simp; omega
      clear hid
      generalize rv t p' = r at hb hne ⊢
      go_wp2_with (first
        | (go_at_call 58; refine (isID_any _ _).mono ?_; rintro e w2 ⟨rfl, rfl⟩)
        | (go_at_call 27; refine (next_any B b t p' ts n m _ HL.out).mono ?_; rintro e w3 ⟨rfl, hL3, hg3⟩)
        | (go_at_call 26; refine (peek_any B b t (nx t p') ts n m _ hL3).mono ?_; rintro e w4 ⟨rfl, hL4, hb4⟩))
      have hnx := HN.out
      have hk' := HK.out
      go_roundg (gk - 1)
      case measure => omega
      case rel => exact ⟨p' + 1, by rw [← hnx], by omega, by rw [← hnx]; exact hL4, (HG.out.trans hg3).trans (Below.grownB hb4), by omega, by omega⟩
    · obtain rfl : j = p' := by omega
      have hb : idB (rv t j) = false := by
        simp [idB]; intro h
        rcases (id_of t j).1 h with h | h
        · exact HE.out.1 h
        · exact HE.out.2 h
      by_cases hm1 : rv t j = -1
      · have hne : (rv t j != -1) = false := by simp [hm1]
        clear hm1
        generalize rv t j = r at hb hne ⊢
        go_wp2_with fail
        obtain ⟨src, tv, fv, l1, l2, ln, ls, fr, xs, ys, HX⟩ := HL.out
        have hblk := HX.blk
        obtain ⟨b1, b2, b3⟩ : ts ≤ j ∧ j ≤ t.size ∧ t.size ≤ 100000 := ⟨HX.b1, HX.b2, HX.b3⟩
        have i1 : (0 : Int) ≤ (ts : Int) := by omega
        have i2 : (ts : Int) ≤ (j : Int) := by omega
        have i3 : (j : Int) ≤ (t.size : Int) := by omega
        clear HX
        refine wp_region_held_tail 15 16 (fun w' => w'.heap[b]? = some (.cells (lexCells t src tv fv ts l1 l2 fr j ln ls) 69 (0, 0))) (by kernel_rfl) (by kernel_rfl) (by intro c a' d' v' w' h'; cases d' <;> exact h') hblk ?_
        simp only [List.take_succ_cons, List.take_zero, List.drop_succ_cons, List.drop_zero]
        iterate 15
          refine wpHeld_cons ?_ (by rfl) (fun w' hSw => ?_) ?_
          rotate_left 1
          · obtain ⟨_, q2, _, _, _, q6, _, _, _, q10, _⟩ := cells_at hSw
            go_simp
            try with_reducible rfl
          simp only [Act.put, List.setIfInBounds_toArray, List.set_cons_zero, List.set_cons_succ]
        refine wpHeld_nil ?_
        refine wpMid_cons (fun K hK => ?_)
        go_simp
        refine (getKind_any _ _).mono ?_
        rintro e w5 ⟨kd, rfl, rfl⟩
        refine hK _ _ hblk ?_
        clear hK K
        refine wpMid_nil ?_
        go_wp2_with (go_at_call 30; refine (emitToken_any B b t j ts n m _ ?_ hn kd).mono ?_; exact LexI.old HL.out ⟨rfl, rfl, rfl, Nat.le_refl _, fun _ _ => rfl⟩; rintro e w6 ⟨rfl, hl6, hb6⟩)
        go_end0
        exact ⟨rfl, hl6, ((Below.refl B w).grown HG.out (Nat.le_of_lt (Nat.lt_of_le_of_lt hB hlt)) (fun k hk => by cases hk; exact hB)).trans ⟨hb6.os, hb6.tape, hb6.output, hb6.size, hb6.block⟩⟩
      · have hne : (rv t j != -1) = true := by simp [hm1]
        clear hm1
        generalize rv t j = r at hb hne ⊢
        go_wp2_with (first
          | (go_at_call 58; refine (isID_any _ _).mono ?_; rintro e w2 ⟨rfl, rfl⟩))
        obtain ⟨src, tv, fv, l1, l2, ln, ls, fr, xs, ys, HX⟩ := HL.out
        have hblk := HX.blk
        obtain ⟨b1, b2, b3⟩ : ts ≤ j ∧ j ≤ t.size ∧ t.size ≤ 100000 := ⟨HX.b1, HX.b2, HX.b3⟩
        have i1 : (0 : Int) ≤ (ts : Int) := by omega
        have i2 : (ts : Int) ≤ (j : Int) := by omega
        have i3 : (j : Int) ≤ (t.size : Int) := by omega
        clear HX
        refine wp_region_held_tail 15 16 (fun w' => w'.heap[b]? = some (.cells (lexCells t src tv fv ts l1 l2 fr j ln ls) 69 (0, 0))) (by kernel_rfl) (by kernel_rfl) (by intro c a' d' v' w' h'; cases d' <;> exact h') hblk ?_
        simp only [List.take_succ_cons, List.take_zero, List.drop_succ_cons, List.drop_zero]
        iterate 15
          refine wpHeld_cons ?_ (by rfl) (fun w' hSw => ?_) ?_
          rotate_left 1
          · obtain ⟨_, q2, _, _, _, q6, _, _, _, q10, _⟩ := cells_at hSw
            go_simp
            try with_reducible rfl
          simp only [Act.put, List.setIfInBounds_toArray, List.set_cons_zero, List.set_cons_succ]
        refine wpHeld_nil ?_
        refine wpMid_cons (fun K hK => ?_)
        go_simp
        refine (getKind_any _ _).mono ?_
        rintro e w5 ⟨kd, rfl, rfl⟩
        refine hK _ _ hblk ?_
        clear hK K
        refine wpMid_nil ?_
        go_wp2_with (go_at_call 30; refine (emitToken_any B b t j ts n m _ ?_ hn kd).mono ?_; exact LexI.old HL.out ⟨rfl, rfl, rfl, Nat.le_refl _, fun _ _ => rfl⟩; rintro e w6 ⟨rfl, hl6, hb6⟩)
        go_end0
        exact ⟨rfl, hl6, ((Below.refl B w).grown HG.out (Nat.le_of_lt (Nat.lt_of_le_of_lt hB hlt)) (fun k hk => by cases hk; exact hB)).trans ⟨hb6.os, hb6.tape, hb6.output, hb6.size, hb6.block⟩⟩

end Go.Proofs.YtjjmgnllhihoeaaGreatFmt

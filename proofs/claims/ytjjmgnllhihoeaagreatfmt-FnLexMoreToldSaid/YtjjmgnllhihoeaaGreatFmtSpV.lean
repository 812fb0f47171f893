/- The reference's lexer: a string in which two quotes stand for one. -/
import Derived.Test.YtjjmgnllhihoeaaGreatFmtSpQ
set_option linter.unusedSimpArgs false
set_option linter.unusedVariables false
namespace Go.Proofs.YtjjmgnllhihoeaaGreatFmt
open Go.RowKit
attribute [local go_sem ↓] Go.wp_at_zero Go.wp_at_succ

set_option maxRecDepth 100000 in
set_option maxHeartbeats 3200000 in
theorem verbatim_any (B b : Nat) (s : ByteArray) (p : Nat) (wd : Bool) (n m : Nat) (w : World) (h : SpI B b s p 1 wd n m w) (hn : n ≤ 200000) (q : Nat) (kd : Int) (h1 : ch s p = 64) (h2 : ch s (p + 1) = q) (hq : q = 34 ∨ q = 39) :
    Calls Tryz.prog 13 #[.pointer (some ⟨b, 0, none⟩), .int .u8 (q : Int), .int .i64 kd] w (OneP B b s p wd n m w) := by
  obtain ⟨c0, c1, c2, c5, fz⟩ := h.cells
  obtain ⟨hp, hs⟩ := h.bounds
  have hps : p + 1 < s.size := ch_ne (by omega)
  have H1 : Hid (ch s p = 64 ∧ ch s (p + 1) = q) := Lib.hid ⟨h1, h2⟩
  have HL := Lib.hid h
  clear h c2 c5 fz h1 h2
  go_enter Tryz.func13, Tryz.ntmps13
  go_wp2_with fail
  go_loopg [6, 7] (s.size + 1 - p) (fun k x6 x7 wr => ∃ (f : Nat) (o : ByteArray), x6 = .string o ∧ x7 = .int .i64 f ∧ p + 2 ≤ f ∧ f ≤ s.size + 1 ∧ o.size ≤ f ∧ s.size + 1 - f ≤ k ∧ (∀ j, Verb (ch s) q f j → Verb (ch s) q (p + 2) j) ∧ wr = w)
  case atStart => exact ⟨p + 2, ⟨#[]⟩, rfl, by go_num, Nat.le_refl _, by omega, Nat.zero_le _, by omega, fun j h => h, rfl⟩
  case round =>
    obtain ⟨f, o, rfl, rfl, hpf, hf, hoz, hk, hV, rfl⟩ := hrel
    have HV := Lib.hid hV
    have HK := Lib.hid hk
    have i1 : (0 : Int) ≤ (f : Int) := by omega
    clear hV hk
    by_cases hlt : f < s.size
    · have hd : decide ((f : Int) < (s.size : Int)) = true := by simp; omega
      obtain ⟨f1, hf1⟩ : ∃ f1, f1 = f + 1 := ⟨_, rfl⟩
      have HF1 := Lib.hid hf1
      have ef1 : (f : Int) + 1 = (f1 : Int) := by omega
      have hf1s : f1 ≤ s.size := by omega
      have hf1p : p < f1 := by omega
      have i2 : (0 : Int) ≤ (f1 : Int) := by omega
      have i3 : (f : Int) ≤ (f1 : Int) := by omega
      have i4 : (f1 : Int) ≤ (s.size : Int) := by omega
      by_cases hcq : ch s f = q
      · have xq : ((s[f].toNat : Int) == (q : Int)) = true := beq_byte hlt q true (by simpa using hcq)
        by_cases hl1 : f1 < s.size
        · have hd1 : decide ((s.size : Int) ≤ (f1 : Int)) = false := by simp; omega
          by_cases hcn : ch s f1 = q
          · as_aux_lemma =>
            have xn : ((s[f1].toNat : Int) != (q : Int)) = false := by rw [← ch_in s f1 hl1, hcn]; simp
            have HD : Hid (∀ j, Verb (ch s) q (f1 + 1) j → Verb (ch s) q f j) := Lib.hid (fun j hj => Verb.dbl _ _ hcq (by rw [← hf1]; exact hcn) (by rw [show f + 2 = f1 + 1 by omega]; exact hj))
            obtain ⟨f2, hf2⟩ : ∃ f2, f2 = f1 + 1 := ⟨_, rfl⟩
            have HF2 := Lib.hid hf2
            have ef2 : (f1 : Int) + 1 = (f2 : Int) := by omega
            have j3 : (f1 : Int) ≤ (f2 : Int) := by omega
            have j4 : (f2 : Int) ≤ (s.size : Int) := by omega
            have hex : (s.extract f1 f2).size ≤ 1 := by rw [ByteArray.size_extract]; omega
            have hcat : o.size + (s.extract f1 f2).size ≤ 9223372036854775807 := by omega
            clear hcq hcn hf1 hf2
            go_wp2_with fail
            have hk' := HK.out
            have hf1 := HF1.out
            have hf2 := HF2.out
            go_roundg (gk - 1)
            case measure => omega
            case rel => exact ⟨f2, _, rfl, rfl, by omega, by omega, by rw [ByteArray.size_append]; omega, by omega, fun j hj => HV.out j (HD.out j (by rw [← hf2]; exact hj)), rfl⟩
          · have xn : ((s[f1].toNat : Int) != (q : Int)) = true := by rw [← ch_in s f1 hl1]; simp; omega
            have HFin : Hid (Verb (ch s) q f f1) := Lib.hid (by rw [hf1]; exact Verb.fin _ hcq (by rw [← hf1]; exact hcn))
            clear hcq hcn hf1
            as_aux_lemma =>
            obtain ⟨tv, cv, co, xs, ys, h⟩ := HL.out
            obtain ⟨i0, hi0, hz0, hz1, hz2⟩ := info_parts Tryz.info76
            obtain ⟨⟨ta, tc, rfl⟩, fa, fc, rfl⟩ := h.forms
            obtain ⟨d0, d1, d2, d3, d4, d5, d6, fz⟩ := spCells_at h.blk
            have H2 := Lib.hid h
            have hBb := h.hB
            have hBw := h.base
            have fz3 := fz 3
            clear h c0 c1 d2 d4 d5 d6 fz
            go_wp2_with (first
              | (at_builtin; refine wpList_append_lies _ (by rfl) _ _ _ (by rfl) B 76 i0 _ 3 32 Tryz.underlying24 hi0 hz0 hz1 hz2 rfl (by omega) (.slice ta n tc) n xs (by rfl) (H2.out.tok.alloc _) ⟨wr.heap.size, 0, none⟩ 1 1 [.int .i64 4, .string o, .int .i64 kd] (by rfl) (by rfl) (World.news_of_block (cs := #[.int .i64 4, .string o, .int .i64 kd]) (t := 76) (fr := (0, 0)) (heap_alloc_new wr _)) (by simp [Value.oneCell']) (by omega) (by unfold maxLen; omega) (by omega) (by have := H2.out.base; simp; omega) (wr.heap.size + 1) (by simp) ?_; intro g cap w4 hown4 hgrow4 hat4 hlt4; have h3 := H2.out.farTok (by repeat (first | exact Below.refl _ _ | refine Below.drew ?_ | refine Below.alloc ?_ (Nat.le_refl _) _)) hgrow4; have h4 := (H2.out.old ((Below.refl _ wr).alloc (Nat.le_refl _) _)).newTok hown4 hgrow4 (hat4.imp id (fun e => by simpa using e)); obtain ⟨_, z1, _, z3, _, _, _, zf⟩ := spCells_at h3; have zf3 := zf 3; obtain ⟨_, y1, _, _, _, _, _, yf⟩ := spCells_at h4.blk; have yf1 := yf 1; have H4 := Lib.hid h4; have hB4 := Below.setCell ((((Below.refl B wr).alloc hBw (.cells #[.int .i64 4, .string o, .int .i64 kd] 76)).grown hgrow4 (by have := H2.out.base; simp; omega) (fun k hk => (H2.out.tok.lt k hk).1))) hBb (p := ⟨b, 3, none⟩) (.slice (some ⟨g, 0, none⟩) (n + 1) cap); clear h3 h4 zf yf hown4 d3 fz3))
            go_end0
            exact ⟨rfl, hB4.setCell hBb _, f1, 1, wd, n + 1, m, (H4.out.putP f1 hf1s).i, Nat.le_refl _, Nat.le_succ _, id, fun _ => ⟨hf1p, fun _ => ⟨1, rfl, Piece.verb _ _ q H1.out.1 H1.out.2 hq (HV.out _ (HFin.out))⟩⟩⟩
        · have hd1 : decide ((s.size : Int) ≤ (f1 : Int)) = true := by simp; omega
          have HFin : Hid (Verb (ch s) q f f1) := Lib.hid (by rw [hf1]; exact Verb.fin _ hcq (by rw [← hf1, ch_out s f1 (by omega)]; omega))
          clear hcq hf1
          as_aux_lemma =>
          obtain ⟨tv, cv, co, xs, ys, h⟩ := HL.out
          obtain ⟨i0, hi0, hz0, hz1, hz2⟩ := info_parts Tryz.info76
          obtain ⟨⟨ta, tc, rfl⟩, fa, fc, rfl⟩ := h.forms
          obtain ⟨d0, d1, d2, d3, d4, d5, d6, fz⟩ := spCells_at h.blk
          have H2 := Lib.hid h
          have hBb := h.hB
          have hBw := h.base
          have fz3 := fz 3
          clear h c0 c1 d2 d4 d5 d6 fz
          go_wp2_with (first
            | (at_builtin; refine wpList_append_lies _ (by rfl) _ _ _ (by rfl) B 76 i0 _ 3 32 Tryz.underlying24 hi0 hz0 hz1 hz2 rfl (by omega) (.slice ta n tc) n xs (by rfl) (H2.out.tok.alloc _) ⟨wr.heap.size, 0, none⟩ 1 1 [.int .i64 4, .string o, .int .i64 kd] (by rfl) (by rfl) (World.news_of_block (cs := #[.int .i64 4, .string o, .int .i64 kd]) (t := 76) (fr := (0, 0)) (heap_alloc_new wr _)) (by simp [Value.oneCell']) (by omega) (by unfold maxLen; omega) (by omega) (by have := H2.out.base; simp; omega) (wr.heap.size + 1) (by simp) ?_; intro g cap w4 hown4 hgrow4 hat4 hlt4; have h3 := H2.out.farTok (by repeat (first | exact Below.refl _ _ | refine Below.drew ?_ | refine Below.alloc ?_ (Nat.le_refl _) _)) hgrow4; have h4 := (H2.out.old ((Below.refl _ wr).alloc (Nat.le_refl _) _)).newTok hown4 hgrow4 (hat4.imp id (fun e => by simpa using e)); obtain ⟨_, z1, _, z3, _, _, _, zf⟩ := spCells_at h3; have zf3 := zf 3; obtain ⟨_, y1, _, _, _, _, _, yf⟩ := spCells_at h4.blk; have yf1 := yf 1; have H4 := Lib.hid h4; have hB4 := Below.setCell ((((Below.refl B wr).alloc hBw (.cells #[.int .i64 4, .string o, .int .i64 kd] 76)).grown hgrow4 (by have := H2.out.base; simp; omega) (fun k hk => (H2.out.tok.lt k hk).1))) hBb (p := ⟨b, 3, none⟩) (.slice (some ⟨g, 0, none⟩) (n + 1) cap); clear h3 h4 zf yf hown4 d3 fz3))
          go_end0
          exact ⟨rfl, hB4.setCell hBb _, f1, 1, wd, n + 1, m, (H4.out.putP f1 hf1s).i, Nat.le_refl _, Nat.le_succ _, id, fun _ => ⟨hf1p, fun _ => ⟨1, rfl, Piece.verb _ _ q H1.out.1 H1.out.2 hq (HV.out _ (HFin.out))⟩⟩⟩
      · as_aux_lemma =>
        have xq : ((s[f].toNat : Int) == (q : Int)) = false := beq_byte hlt q false (by simpa using hcq)
        have HD : Hid (∀ j, Verb (ch s) q f1 j → Verb (ch s) q f j) := Lib.hid (fun j hj => Verb.step _ _ hcq (by have := ch_lt s f hlt; omega) (by rw [← hf1]; exact hj))
        have hex : (s.extract f f1).size ≤ 1 := by rw [ByteArray.size_extract]; omega
        have hcat : o.size + (s.extract f f1).size ≤ 9223372036854775807 := by omega
        clear hcq hf1
        go_wp2_with fail
        have hk' := HK.out
        have hf1 := HF1.out
        go_roundg (gk - 1)
        case measure => omega
        case rel => exact ⟨f1, _, rfl, rfl, by omega, by omega, by rw [ByteArray.size_append]; omega, by omega, fun j hj => HV.out j (HD.out j hj), rfl⟩
    · as_aux_lemma =>
      have hd : decide ((f : Int) < (s.size : Int)) = false := by simp; omega
      go_wp2_with (first
        | (go_at_call 23; refine (stop_any B b s p 1 2 wd n m _ HL.out).mono ?_; rintro e w3 ⟨rfl, hL3, hb3⟩))
      go_end0
      exact OneP.fell hb3 hL3 (Nat.le_succ _) (Nat.le_succ _) (by decide)
end Go.Proofs.YtjjmgnllhihoeaaGreatFmt

/- The reference's lexer: a string between quotes. -/
import Derived.Test.YtjjmgnllhihoeaaGreatFmtSpU
import Derived.Test.YtjjmgnllhihoeaaGreatFmtSpG
import Derived.IntWalk
set_option linter.unusedSimpArgs false
set_option linter.unusedVariables false
namespace Go.Proofs.YtjjmgnllhihoeaaGreatFmt
open Go.RowKit
attribute [local go_sem ↓] Go.wp_at_zero Go.wp_at_succ

set_option maxRecDepth 100000 in
set_option maxHeartbeats 1200000 in
theorem quoted_any (B b : Nat) (s : ByteArray) (p : Nat) (wd : Bool) (n m : Nat) (w : World) (h : SpI B b s p 1 wd n m w) (hn : n ≤ 200000) (q : Nat) (kd : Int) (h1 : ch s p = q) (hq : q = 34 ∨ q = 39) :
    Calls Tryz.prog 14 #[.pointer (some ⟨b, 0, none⟩), .int .u8 (q : Int), .int .i64 kd] w (OneP B b s p wd n m w) := by
  obtain ⟨c0, c1, c2, c5, fz⟩ := h.cells
  obtain ⟨hp, hs⟩ := h.bounds
  have hps : p < s.size := ch_ne (by omega)
  have H1 := Lib.hid h1
  have HL := Lib.hid h
  have i0 : (0 : Int) ≤ (p : Int) := by omega
  obtain ⟨p1, hp1⟩ : ∃ p1, p1 = p + 1 := ⟨_, rfl⟩
  have HP1 := Lib.hid hp1
  have ep1 : (p : Int) + 1 = (p1 : Int) := by omega
  have hp1s : p1 ≤ s.size := by omega
  have hpp1 : p < p1 := by omega
  clear h c2 c5 fz h1 hp1
  go_enter Tryz.func14, Tryz.ntmps14
  go_upto_block 0 with fail
  go_cut [6] (fun s6 wx => ∃ f : Nat, s6 = .int .i64 f ∧ p1 ≤ f ∧ f ≤ s.size + 1 ∧ (∀ j, Quot (ch s) q f j → Quot (ch s) q p1 j) ∧ (f < s.size → ch s f = q) ∧ wx = w)
  case first =>
    go_wp2_with fail
    go_loopg [6] (s.size + 1 - p) (fun k x6 wr => ∃ f : Nat, x6 = .int .i64 f ∧ p1 ≤ f ∧ f ≤ s.size + 1 ∧ s.size + 1 - f ≤ k ∧ (∀ j, Quot (ch s) q f j → Quot (ch s) q p1 j) ∧ wr = w)
    case atStart => exact ⟨p1, rfl, Nat.le_refl _, by omega, by omega, fun j h => h, rfl⟩
    case round =>
      obtain ⟨f, rfl, hpf, hf, hk, hQ, rfl⟩ := hrel
      have HQ := Lib.hid hQ
      have HK := Lib.hid hk
      have i1 : (0 : Int) ≤ (f : Int) := by omega
      clear hQ hk
      by_cases hlt : f < s.size
      · have hd : decide ((f : Int) < (s.size : Int)) = true := by simp; omega
        by_cases hcq : ch s f = q
        · as_aux_lemma =>
          have xq : ((s[f].toNat : Int) != (q : Int)) = false := by rw [← ch_in s f hlt, hcq]; simp
          have HC := Lib.hid hcq
          clear hcq
          go_wp2_with fail
          go_meet
          exact ⟨f, rfl, hpf, hf, HQ.out, fun _ => HC.out, rfl⟩
        · have xq : ((s[f].toNat : Int) != (q : Int)) = true := by rw [← ch_in s f hlt]; simp; omega
          by_cases h10 : ch s f = 10
          · as_aux_lemma =>
            have x10 : ((s[f].toNat : Int) == 10) = true := beq_byte hlt 10 true (by simpa using h10)
            clear hcq h10
            go_wp2_with (first
              | (go_at_call 23; refine (stop_any B b s p 1 0 wd n m _ HL.out).mono ?_; rintro e w2 ⟨rfl, hL2, hb2⟩))
            go_end0
            exact OneP.fell hb2 hL2 (Nat.le_succ _) (Nat.le_succ _) (by decide)
          · have x10 : ((s[f].toNat : Int) == 10) = false := beq_byte hlt 10 false (by simpa using h10)
            obtain ⟨f1, hf1⟩ : ∃ f1, f1 = f + 1 := ⟨_, rfl⟩
            have HF1 := Lib.hid hf1
            have ef1 : (f : Int) + 1 = (f1 : Int) := by omega
            clear hf1
            by_cases h92 : ch s f = 92
            · as_aux_lemma =>
              have x92 : ((s[f].toNat : Int) == 92) = true := beq_byte hlt 92 true (by simpa using h92)
              have HC : Hid (ch s f ≠ q ∧ ch s f = 92) := Lib.hid ⟨hcq, h92⟩
              clear hcq h10 h92
              go_wp2_with fail
              have hk' := HK.out
              have hf1 := HF1.out
              go_roundg (gk - 1)
              case measure => omega
              case rel => exact ⟨f1 + 1, by go_num, by omega, by omega, by omega, fun j hj => HQ.out j (Quot.esc _ _ HC.out.1 HC.out.2 (by rw [show f + 2 = f1 + 1 by omega]; exact hj)), rfl⟩
            · as_aux_lemma =>
              have x92 : ((s[f].toNat : Int) == 92) = false := beq_byte hlt 92 false (by simpa using h92)
              have HC : Hid (ch s f ≠ q ∧ ch s f ≠ 92 ∧ ch s f ≠ 256) := Lib.hid ⟨hcq, h92, by have := ch_lt s f hlt; omega⟩
              clear hcq h10 h92
              go_wp2_with fail
              have hk' := HK.out
              have hf1 := HF1.out
              go_roundg (gk - 1)
              case measure => omega
              case rel => exact ⟨f1, rfl, by omega, by omega, by omega, fun j hj => HQ.out j (Quot.step _ _ HC.out.1 HC.out.2.1 HC.out.2.2 (by rw [show f + 1 = f1 by omega]; exact hj)), rfl⟩
      · as_aux_lemma =>
        have hd : decide ((f : Int) < (s.size : Int)) = false := by simp; omega
        go_wp2_with fail
        go_meet
        exact ⟨f, rfl, hpf, hf, HQ.out, fun h => absurd h hlt, rfl⟩
  case rest =>
    obtain ⟨f, rfl, hpf, hf, hQ, hfq, rfl⟩ := hcut
    have i1 : (0 : Int) ≤ (f : Int) := by omega
    by_cases hlt : f < s.size
    · have HQ := Lib.hid (hQ (f + 1) (Quot.fin _ (hfq hlt)))
      have hd : decide ((s.size : Int) ≤ (f : Int)) = false := by simp; omega
      have i2 : (0 : Int) ≤ (p1 : Int) := by omega
      have i3 : (p1 : Int) ≤ (f : Int) := by omega
      have i4 : (f : Int) ≤ (s.size : Int) := by omega
      obtain ⟨tv, cv, co, xs, ys, h⟩ := HL.out
      have hblk := h.blk
      clear hQ hfq c0 c1
      obtain ⟨c0, c1, _⟩ := spCells_at hblk
      go_wp2_with fail
      have hlt2 := h.lt
      have ww1 : IntKind.i64.wrap (p1 : Int) = (p1 : Int) := IntWalk.i64_in _ (by omega)
      have hze : (s.extract p1 f).size ≤ 100000 := by rw [ByteArray.size_extract]; omega
      have HX := Lib.hid h
      clear h hblk
      go_region_held3 (fun w' => w'.cell? ⟨b, 0, none⟩ = some (.string s) ∧ w'.cell? ⟨b, 1, none⟩ = some (.int .i64 p)) (first | go_keep | (go_split_ands; refine ⟨(hb.cell (p := ⟨b, 0, none⟩) (by simpa using hlt2)).trans (by simpa using c0), (hb.cell (p := ⟨b, 1, none⟩) (by simpa using hlt2)).trans (by simpa using c1)⟩))
        ((go_at_call 44; refine (unesc_any _ _ hze).mono ?_; rintro e w2 ⟨tx, st, rfl, hb⟩))
      have hb2 : Below wc.heap.size wc w2 := ⟨hb.os, hb.tape, hb.output, hb.size, hb.block⟩
      have h2 := HX.out.old hb2
      have hB2 := hb2.mono HX.out.base
      clear ww1 c0 c1 ep1 hb
      obtain ⟨i0, hi0, hz0, hz1, hz2⟩ := info_parts Tryz.info76
      obtain ⟨⟨ta, tc, rfl⟩, fa, fc, rfl⟩ := h2.forms
      obtain ⟨c0, c1, c2, c3, c4, c5, c6, fz⟩ := spCells_at h2.blk
      have H2 := Lib.hid h2
      have HB2 := Lib.hid hB2
      clear HX h2 hb2 hB2
      by_cases hst : st = 1
      · subst hst
        obtain ⟨f1, hf1⟩ : ∃ f1, f1 = f + 1 := ⟨_, rfl⟩
        have HF1 := Lib.hid hf1
        have ef1 : (f : Int) + 1 = (f1 : Int) := by omega
        have hf1s : f1 ≤ s.size := by omega
        have hf1p : p < f1 := by omega
        have hBb := H2.out.hB
        have fz3 := fz 3
        clear hf1 c0 c1 c2 c4 c5 c6 fz
        as_aux_lemma =>
        go_wp2_with (first
          | (at_builtin; refine wpList_append_lies _ (by rfl) _ _ _ (by rfl) B 76 i0 _ 3 32 Tryz.underlying24 hi0 hz0 hz1 hz2 rfl (by omega) (.slice ta n tc) n xs (by rfl) (H2.out.tok.alloc _) ⟨w2.heap.size, 0, none⟩ 1 1 [.int .i64 4, .string tx, .int .i64 kd] (by rfl) (by rfl) (World.news_of_block (cs := #[.int .i64 4, .string tx, .int .i64 kd]) (t := 76) (fr := (0, 0)) (heap_alloc_new w2 _)) (by simp [Value.oneCell']) (by omega) (by unfold maxLen; omega) (by omega) (by have := H2.out.base; simp; omega) (w2.heap.size + 1) (by simp) ?_; intro g cap w4 hown4 hgrow4 hat4 hlt4; have h3 := H2.out.farTok (by repeat (first | exact Below.refl _ _ | refine Below.drew ?_ | refine Below.alloc ?_ (Nat.le_refl _) _)) hgrow4; have h4 := (H2.out.old ((Below.refl _ w2).alloc (Nat.le_refl _) _)).newTok hown4 hgrow4 (hat4.imp id (fun e => by simpa using e)); obtain ⟨_, z1, _, z3, _, _, _, zf⟩ := spCells_at h3; have zf3 := zf 3; obtain ⟨_, y1, _, _, _, _, _, yf⟩ := spCells_at h4.blk; have yf1 := yf 1; have H4 := Lib.hid h4; have hB4 := Below.setCell (((HB2.out.alloc H2.out.base (.cells #[.int .i64 4, .string tx, .int .i64 kd] 76)).grown hgrow4 (by have := H2.out.base; simp; omega) (fun k hk => (H2.out.tok.lt k hk).1))) hBb (p := ⟨b, 3, none⟩) (.slice (some ⟨g, 0, none⟩) (n + 1) cap); clear h3 h4 zf yf hown4 c3 fz3))
        go_end0
        exact ⟨rfl, hB4.setCell hBb _, f1, 1, wd, n + 1, m, (H4.out.putP f1 hf1s).i, Nat.le_refl _, Nat.le_succ _, id, fun _ => ⟨hf1p, fun _ => ⟨1, rfl, Piece.quot _ _ q H1.out hq (by rw [← HP1.out, HF1.out]; exact HQ.out)⟩⟩⟩
      · as_aux_lemma =>
        have hx : ((st : Int) != 1) = true := by simp; exact hst
        clear hst
        go_wp2_with (first
          | (go_at_call 23; refine (stop_any B b s p 1 0 wd n m _ H2.out.i).mono ?_; rintro e w3 ⟨rfl, hL3, hb3⟩))
        go_end0
        exact OneP.fell (HB2.out.trans hb3) hL3 (Nat.le_succ _) (Nat.le_succ _) (by decide)
    · as_aux_lemma =>
      have hd : decide ((s.size : Int) ≤ (f : Int)) = true := by simp; omega
      clear hQ hfq
      go_wp2_with (first
        | (go_at_call 23; refine (stop_any B b s p 1 2 wd n m _ HL.out).mono ?_; rintro e w3 ⟨rfl, hL3, hb3⟩))
      go_end0
      exact OneP.fell hb3 hL3 (Nat.le_succ _) (Nat.le_succ _) (by decide)
end Go.Proofs.YtjjmgnllhihoeaaGreatFmt

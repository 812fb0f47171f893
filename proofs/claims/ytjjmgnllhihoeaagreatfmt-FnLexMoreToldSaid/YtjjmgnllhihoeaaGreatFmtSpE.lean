/- The reference's lexer: a comment between signs. -/
import Derived.Test.YtjjmgnllhihoeaaGreatFmtSpD
set_option linter.unusedSimpArgs false
set_option linter.unusedVariables false
namespace Go.Proofs.YtjjmgnllhihoeaaGreatFmt
open Go.RowKit
attribute [local go_sem ↓] Go.wp_at_zero Go.wp_at_succ

/-- No step: the state is no longer fine. -/
theorem OneP.fell {B b : Nat} {s : ByteArray} {p p' : Nat} {st' : Int} {wd : Bool} {n m n' m' : Nat} {w w' : World} (hb : Below B w w') (h : SpI B b s p' st' wd n' m' w') (h1 : n' ≤ n + 1) (h2 : m' ≤ m + 1) (hst : st' ≠ 1) :
    OneP B b s p wd n m w (.returned (.tuple #[])) w' :=
  ⟨rfl, hb, p', st', wd, n', m', h, h1, h2, id, fun h => absurd h hst⟩

set_option maxRecDepth 100000 in
set_option maxHeartbeats 6400000 in
theorem comment_any (B b : Nat) (s : ByteArray) (p : Nat) (wd : Bool) (n m : Nat) (w : World) (h : SpI B b s p 1 wd n m w) (hm : m ≤ 200000) (h1 : ch s p = 47) (h2 : ch s (p + 1) = 42) :
    Calls Tryz.prog 11 #[.pointer (some ⟨b, 0, none⟩)] w (OneP B b s p wd n m w) := by
  obtain ⟨c0, c1, c2, c5, fz⟩ := h.cells
  obtain ⟨hp, hs⟩ := h.bounds
  have hps : p + 1 < s.size := ch_ne (by omega)
  have H1 : Hid (ch s p = 47 ∧ ch s (p + 1) = 42) := Lib.hid ⟨h1, h2⟩
  have HL := Lib.hid (h.putP (p + 2) (by omega))
  have HB := Lib.hid ((Below.refl B w).setCell h.base (.int .i64 (p + 2 : Nat)) : Below B w (w.setCell ⟨b, 1, none⟩ (.int .i64 (p + 2 : Nat))))
  have fz1 := fz 1
  clear h c2 c5 h1 h2 fz
  go_enter Tryz.func11, Tryz.ntmps11
  go_wp2_with fail
  go_loopg [14] (s.size - (p + 2)) (fun k x14 wr => ∃ f : Nat, SpI B b s f 1 wd n m wr ∧ Below B w wr ∧ p + 2 ≤ f ∧ f ≤ s.size ∧ s.size - f ≤ k ∧ (∀ k, p + 2 ≤ k → k < f → ¬ (ch s k = 42 ∧ ch s (k + 1) = 47) ∧ ch s k ≠ 256))
  case atStart => exact ⟨p + 2, HL.out, HB.out, Nat.le_refl _, by omega, Nat.le_refl _, fun k h1 h2 => by omega⟩
  case round =>
    clear HL HB c0 c1 fz1
    obtain ⟨f, hL, hBw, hpf, hf, hk, hD⟩ := hrel
    obtain ⟨c0, c1, c2, c5, fz⟩ := hL.cells
    have fz1 := fz 1
    have hb1 := hL.base
    have HL := Lib.hid hL
    have HBw := Lib.hid hBw
    have HD := Lib.hid hD
    have HK := Lib.hid hk
    clear hL hBw hD hk c2 c5 fz
    by_cases hlt : f < s.size
    · have hd : decide ((f : Int) < (s.size : Int)) = true := by simp; omega
      cases hx : begB s f ⟨#[42, 47]⟩
      · as_aux_lemma =>
        have hnx : ¬ (ch s f = 42 ∧ ch s (f + 1) = 47) := by
          intro h
          have := (begB_2 s f 42 47).2 h
          rw [hx] at this; cases this
        have HN := Lib.hid hnx
        clear hnx
        go_wp2_with fail
        go_quiet ((go_at_call 9; exact Calls.quiet_of (begins_any B b s f 1 wd n m _ (HL.out.drewN _) ⟨#[42, 47]⟩ (by decide) (by decide))))
        have HLq := Lib.hid ((HL.out.drewN nq).putP (f + 1) (by omega))
        have HBq := Lib.hid ((below_drewN HBw.out nq).setCell hb1 (.int .i64 (f + 1 : Nat)) : Below B w ((wr.drewN nq).setCell ⟨b, 1, none⟩ (.int .i64 (f + 1 : Nat))))
        go_wp2_with fail
        have hk' := HK.out
        have hl := ch_lt s f hlt
        go_roundg (gk - 1)
        case measure => omega
        case rel => exact ⟨f + 1, HLq.out, HBq.out, by omega, by omega, by omega, fun k h1 h2 => by
          by_cases hkf : k < f
          · exact HD.out k h1 hkf
          · rw [show k = f by omega]; exact ⟨HN.out, by omega⟩⟩
      · as_aux_lemma =>
        have hnx := (begB_2 s f 42 47).1 hx
        have HN : Hid (ch s f = 42 ∧ ch s (f + 1) = 47) := Lib.hid hnx
        have hf1 : f + 1 < s.size := ch_ne (by rw [hnx.2]; decide)
        clear hnx
        go_wp2_with fail
        go_quiet ((go_at_call 9; exact Calls.quiet_of (begins_any B b s f 1 wd n m _ (HL.out.drewN _) ⟨#[42, 47]⟩ (by decide) (by decide))))
        have HLq := Lib.hid (HL.out.drewN nq)
        have HBq := Lib.hid (below_drewN HBw.out nq)
        clear c0 c1 fz1 HL HBw
        generalize wr.drewN nq = W1 at *
        obtain ⟨c0, c1, _, _, fz⟩ := HLq.out.cells
        have fz1 := fz 1
        have hd2 : decide ((s.size : Int) ≤ (f : Int)) = false := by simp; omega
        clear fz
        go_wp2_with fail
        go_quiet (fail)
        obtain ⟨f2, hf2⟩ : ∃ f2, f2 = f + 2 := ⟨_, rfl⟩
        have hf2s : f2 ≤ s.size := by omega
        have hpf2 : p < f2 := by omega
        have HF2 := Lib.hid hf2
        have ef : (f : Int) + 2 = (f2 : Int) := by omega
        clear hf2
        have HLr := Lib.hid ((HLq.out.drewN nq).putP f2 hf2s)
        have HBr := Lib.hid ((below_drewN HBq.out nq).setCell hb1 (.int .i64 (f2 : Nat)) : Below B w ((W1.drewN nq).setCell ⟨b, 1, none⟩ (.int .i64 (f2 : Nat))))
        go_wp2_with fail
        clear c0 c1 fz1 HLq HBq ef
        generalize (W1.drewN nq).setCell ⟨b, 1, none⟩ (.int .i64 (f2 : Nat)) = W2 at *
        obtain ⟨tv, cv, co, xs, ys, h⟩ := HLr.out
        obtain ⟨i0, hi0, hz0, hz1, hz2⟩ := info_parts Tryz.info9
        have hbase := h.base
        obtain ⟨⟨ta, tc, rfl⟩, fa, fc, rfl⟩ := h.forms
        have H0 := Lib.hid h
        have hblk := h.blk
        have i1 : (0 : Int) ≤ (p : Int) := by omega
        have i2 : (p : Int) ≤ (f2 : Int) := by omega
        have i3 : (f2 : Int) ≤ (s.size : Int) := by omega
        clear h
        refine wp_region_held_tail 15 17 (fun w' => w'.heap[b]? = some (.cells (spCells s f2 1 (.slice ta n tc) (.slice fa m fc) wd co) 27 (0, 0))) (by kernel_rfl) (by kernel_rfl) (by intro c a' d' v' w' h'; cases d' <;> exact h') hblk ?_
        simp only [List.take_succ_cons, List.take_zero, List.drop_succ_cons, List.drop_zero]
        iterate 15
          refine wpHeld_cons ?_ (by rfl) (fun w' hSw => ?_) ?_
          rotate_left 1
          · obtain ⟨q0, q1, _, q3, q4, _⟩ := spCells_at hSw
            go_simp
            try with_reducible rfl
          simp only [Act.put, List.setIfInBounds_toArray, List.set_cons_zero, List.set_cons_succ]
        refine wpHeld_nil ?_
        have hbd : Below W2.heap.size W2 W2.drew := ⟨rfl, rfl, rfl, Nat.le_refl _, fun _ _ => rfl⟩
        have h1' := H0.out.old hbd
        have hbd2 := HBr.out.trans (hbd.mono hbase)
        clear hbd
        generalize W2.drew = w1 at *
        refine wpMid_cons (fun K hK => ?_)
        go_simp
        refine hK _ _ (h1'.old ((Below.refl _ w1).alloc (Nat.le_refl _) _)).blk ?_
        clear hK K
        refine wpMid_cons (fun K hK => ?_)
        refine step_append_lies _ (by rfl) _ _ _ (by rfl) B 9 i0 _ 1 16 Tryz.underlying25 hi0 hz0 hz1 hz2 rfl (by omega) (.slice fa m fc) m ys (by rfl) (h1'.com.alloc _) ⟨w1.heap.size, 0, none⟩ 1 1 [.string (s.extract p f2)] (by rfl) (by rfl) (World.news_of_block (cs := #[.string (s.extract p f2)]) (t := 9) (fr := (0, 0)) (heap_alloc_new w1 _)) (by simp [Value.oneCell']) (by omega) (by unfold maxLen; omega) (by omega) (by have := h1'.base; simp; omega) (w1.heap.size + 1) (by simp) ?_
        intro g cap w3 hown3 hgrow hat hlt3
        have h3 := h1'.farCom (by repeat (first | exact Below.refl _ _ | refine Below.drew ?_ | refine Below.alloc ?_ (Nat.le_refl _) _)) hgrow
        have h4 := (h1'.old ((Below.refl _ w1).alloc (Nat.le_refl _) _)).newCom hown3 hgrow (hat.imp id (fun e => by simpa using e))
        obtain ⟨z0, z1, z2, z3, z4, z5, z6, zf⟩ := spCells_at h3
        have H4 := Lib.hid h4
        have hbx : Below B w (w3.setCell ⟨b, 4, none⟩ (.slice (some ⟨g, 0, none⟩) (m + 1) cap)) := Below.setCell ((hbd2.alloc h1'.base (.cells #[.string (s.extract p f2)] 9)).grown hgrow (by have := h1'.base; simp; omega) (fun k hk => (h1'.com.lt k hk).1)) hb1 _
        have zf3 := zf 4
        clear h1' h4 hown3 zf hblk z0 z1 z2 z3 z5 z6
        refine hK _ _ h3 ?_
        clear hK K
        refine wpMid_nil ?_
        go_wp2_with fail
        go_end0
        exact ⟨rfl, hbx, f2, 1, wd, n, m + 1, H4.out.i, Nat.le_succ _, Nat.le_refl _, id, fun _ => ⟨hpf2, fun _ => ⟨0, rfl, HF2.out ▸ Piece.comm _ _ H1.out.1 H1.out.2 hpf HD.out HN.out.1 HN.out.2⟩⟩⟩
    · as_aux_lemma =>
      have hd : decide ((f : Int) < (s.size : Int)) = false := by simp; omega
      go_wp2_with fail
      go_quiet (fail)
      have HLq := Lib.hid (HL.out.drewN nq)
      have HBq := Lib.hid (below_drewN HBw.out nq)
      clear c0 c1 fz1 HL HBw hd
      generalize wr.drewN nq = W1 at *
      obtain ⟨c0, c1, _, _, fz⟩ := HLq.out.cells
      have hd2 : decide ((s.size : Int) ≤ (f : Int)) = true := by simp; omega
      clear fz
      go_wp2_with fail
      go_quiet (fail)
      clear c0 c1
      go_wp2_with (go_at_call 23; refine (stop_any B b s f 1 2 wd n m _ (HLq.out.drewN _)).mono ?_; rintro e w2 ⟨rfl, hL2, hb2⟩)
      go_end0
      exact OneP.fell ((below_drewN HBq.out _).trans hb2) hL2 (Nat.le_succ _) (Nat.le_succ _) (by decide)
end Go.Proofs.YtjjmgnllhihoeaaGreatFmt

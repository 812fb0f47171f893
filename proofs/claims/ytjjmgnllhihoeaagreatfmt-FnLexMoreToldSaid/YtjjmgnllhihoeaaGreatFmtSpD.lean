/- The reference's lexer: a comment to the line's end, and one between signs. -/
import Derived.Test.YtjjmgnllhihoeaaGreatFmtSpC
import Derived.Deep.CutBlock
import Derived.Deep.DeepCutAuto
set_option linter.unusedSimpArgs false
set_option linter.unusedVariables false
namespace Go.Proofs.YtjjmgnllhihoeaaGreatFmt
open Go.RowKit
attribute [local go_sem ↓] Go.wp_at_zero Go.wp_at_succ

/-- What one step leaves: if the state is fine, it has gone on; if nothing is wound either, over one piece. -/
def OneP (B b : Nat) (s : ByteArray) (p : Nat) (wd : Bool) (n m : Nat) (w : World) (e : Ending) (w' : World) : Prop :=
  e = .returned (.tuple #[]) ∧ Below B w w' ∧ ∃ (p' : Nat) (st' : Int) (wd' : Bool) (n' m' : Nat), SpI B b s p' st' wd' n' m' w' ∧ n' ≤ n + 1 ∧ m' ≤ m + 1 ∧ (wd = true → wd' = true) ∧
    (st' = 1 → p < p' ∧ (wd' = false → ∃ d, n' = n + d ∧ Piece (ch s) p p' d))

theorem byte_ne {s : ByteArray} {k x : Nat} (hk : k < s.size) (h : ch s k ≠ x) : ((s[k].toNat : Int) == (x : Int)) = false := by
  rw [ch_in s k hk] at h
  exact beq_eq_false_iff_ne.2 (by omega)

set_option maxRecDepth 100000 in
set_option maxHeartbeats 6400000 in
theorem line_any (B b : Nat) (s : ByteArray) (p : Nat) (wd : Bool) (n m : Nat) (w : World) (h : SpI B b s p 1 wd n m w) (hm : m ≤ 200000) (h1 : ch s p = 35 ∨ (ch s p = 47 ∧ ch s (p + 1) = 47)) :
    Calls Tryz.prog 10 #[.pointer (some ⟨b, 0, none⟩)] w (OneP B b s p wd n m w) := by
  obtain ⟨c0, c1, c2, c5, fz⟩ := h.cells
  obtain ⟨hp, hs⟩ := h.bounds
  have hps : p < s.size := ch_ne (by omega)
  have H1 := Lib.hid h1
  have HL := Lib.hid h
  clear h c2 c5 fz h1
  go_enter Tryz.func10, Tryz.ntmps10
  go_upto_block 0 with fail
  go_cut [2] (fun s2 wx => ∃ f : Nat, s2 = .int .i64 f ∧ p < f ∧ f ≤ s.size ∧ (∀ k, p ≤ k → k < f → ch s k ≠ 10 ∧ ch s k ≠ 256) ∧ (ch s f = 10 ∨ ch s f = 256) ∧ wx = w)
  case first =>
    go_wp2_with fail
    go_loopg [2] (s.size - p) (fun k x2 wr => ∃ f : Nat, x2 = .int .i64 f ∧ p ≤ f ∧ f ≤ s.size ∧ s.size - f ≤ k ∧ (∀ k, p ≤ k → k < f → ch s k ≠ 10 ∧ ch s k ≠ 256) ∧ wr = w)
    case atStart => exact ⟨p, rfl, Nat.le_refl _, hp, Nat.le_refl _, fun k h1 h2 => by omega, rfl⟩
    case round =>
      obtain ⟨f, rfl, hpf, hf, hk, hD, rfl⟩ := hrel
      have HD := Lib.hid hD
      have HK := Lib.hid hk
      clear hD hk
      have hne0 : p < f ∨ ch s f ≠ 10 := by
        by_cases h : p < f
        · exact .inl h
        · right; rw [show f = p by omega]; have := H1.out; omega
      have HN0 := Lib.hid hne0
      clear hne0
      by_cases hlt' : f < s.size
      · have i0 : (0 : Int) ≤ (f : Int) := by omega
        have hd : decide ((f : Int) < (s.size : Int)) = true := by simp; omega
        by_cases h10 : ch s f = 10
        · as_aux_lemma =>
          have x10 : ((s[f].toNat : Int) != 10) = false := by rw [← ch_in s f hlt', h10]; rfl
          have HT := Lib.hid h10
          clear h10
          go_wp2_with fail
          go_meet
          exact ⟨f, rfl, by rcases HN0.out with h | h; exact h; exact absurd HT.out h, hf, HD.out, .inl HT.out, rfl⟩
        · as_aux_lemma =>
          have x10 : ((s[f].toNat : Int) != 10) = true := by rw [← ch_in s f hlt']; simp; omega
          have HT := Lib.hid h10
          clear h10
          go_wp2_with fail
          have hk' := HK.out
          have hl := ch_lt s f hlt'
          go_roundg (gk - 1)
          case measure => omega
          case rel => exact ⟨f + 1, by go_num, by omega, by omega, by omega, fun k h1 h2 => by
            by_cases hkf : k < f
            · exact HD.out k h1 hkf
            · rw [show k = f by omega]; exact ⟨HT.out, by omega⟩, rfl⟩
      · have hd : decide ((f : Int) < (s.size : Int)) = false := by simp; omega
        have HN := Lib.hid (ch_out s f (by omega))
        go_wp2_with fail
        go_meet
        exact ⟨f, rfl, by omega, hf, HD.out, .inr HN.out, rfl⟩
  case rest =>
    obtain ⟨f, rfl, hpf, hf, hD, hend, rfl⟩ := hcut
    have HD := Lib.hid hD
    have HE := Lib.hid hend
    clear hD hend c0 c1
    obtain ⟨tv, cv, co, xs, ys, h⟩ := HL.out
    obtain ⟨i0, hi0, hz0, hz1, hz2⟩ := info_parts Tryz.info9
    have hlt := h.lt
    have hbase := h.base
    obtain ⟨⟨ta, tc, rfl⟩, fa, fc, rfl⟩ := h.forms
    have H0 := Lib.hid h
    have hblk := h.blk
    have i1 : (0 : Int) ≤ (p : Int) := by omega
    have i2 : (p : Int) ≤ (f : Int) := by omega
    have i3 : (f : Int) ≤ (s.size : Int) := by omega
    clear h
    go_wp2_with fail
    refine wp_region_held_tail 15 17 (fun w' => w'.heap[b]? = some (.cells (spCells s p 1 (.slice ta n tc) (.slice fa m fc) wd co) 27 (0, 0))) (by kernel_rfl) (by kernel_rfl) (by intro c a' d' v' w' h'; cases d' <;> exact h') hblk ?_
    simp only [List.take_succ_cons, List.take_zero, List.drop_succ_cons, List.drop_zero]
    iterate 15
      refine wpHeld_cons ?_ (by rfl) (fun w' hSw => ?_) ?_
      rotate_left 1
      · obtain ⟨q0, q1, _, q3, q4, _⟩ := spCells_at hSw
        go_simp
        try with_reducible rfl
      simp only [Act.put, List.setIfInBounds_toArray, List.set_cons_zero, List.set_cons_succ]
    refine wpHeld_nil ?_
    have hbd : Below wc.heap.size wc wc.drew := ⟨rfl, rfl, rfl, Nat.le_refl _, fun _ _ => rfl⟩
    have h1' := H0.out.old hbd
    generalize wc.drew = w1 at *
    refine wpMid_cons (fun K hK => ?_)
    go_simp
    refine hK _ _ (h1'.old ((Below.refl _ w1).alloc (Nat.le_refl _) _)).blk ?_
    clear hK K
    refine wpMid_cons (fun K hK => ?_)
    refine step_append_lies _ (by rfl) _ _ _ (by rfl) B 9 i0 _ 1 16 Tryz.underlying25 hi0 hz0 hz1 hz2 rfl (by omega) (.slice fa m fc) m ys (by rfl) (h1'.com.alloc _) ⟨w1.heap.size, 0, none⟩ 1 1 [.string (s.extract p f)] (by rfl) (by rfl) (World.news_of_block (cs := #[.string (s.extract p f)]) (t := 9) (fr := (0, 0)) (heap_alloc_new w1 _)) (by simp [Value.oneCell']) (by omega) (by unfold maxLen; omega) (by omega) (by have := h1'.base; simp; omega) (w1.heap.size + 1) (by simp) ?_
    intro g cap w3 hown3 hgrow hat hlt3
    have h3 := h1'.farCom (by repeat (first | exact Below.refl _ _ | refine Below.drew ?_ | refine Below.alloc ?_ (Nat.le_refl _) _)) hgrow
    have h4 := (h1'.old ((Below.refl _ w1).alloc (Nat.le_refl _) _)).newCom hown3 hgrow (hat.imp id (fun e => by simpa using e))
    obtain ⟨z0, z1, z2, z3, z4, z5, z6, zf⟩ := spCells_at h3
    obtain ⟨y0, y1, y2, y3, y4, y5, y6, yf⟩ := spCells_at h4.blk
    have H4 := Lib.hid h4
    have HB : Below B wc (w3.setCell ⟨b, 4, none⟩ (.slice (some ⟨g, 0, none⟩) (m + 1) cap)) := by
      refine Below.setCell ?_ H0.out.hB _
      exact ((hbd.mono H0.out.base).alloc h1'.base _).grown hgrow (by have := h1'.base; simp; omega) (fun k hk => (H0.out.com.lt k hk).1)
    have zf3 := zf 4
    clear h1' h4 hown3 zf hblk z0 z1 z2 z3 z5 z6
    refine hK _ _ h3 ?_
    clear hK K
    refine wpMid_nil ?_
    go_wp2_with fail
    go_end0
    exact ⟨rfl, HB.setCell H4.out.hB _, f, 1, wd, n, m + 1, (H4.out.putP f hf).i, Nat.le_succ _, Nat.le_refl _, id, fun _ => ⟨hpf, fun _ => ⟨0, rfl, Piece.line _ _ H1.out hpf HD.out HE.out⟩⟩⟩
end Go.Proofs.YtjjmgnllhihoeaaGreatFmt

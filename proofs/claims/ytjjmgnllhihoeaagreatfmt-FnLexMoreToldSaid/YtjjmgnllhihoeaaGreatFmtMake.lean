/- The lexer made: its source cut into lines, its first state. -/
import Derived.Test.YtjjmgnllhihoeaaGreatFmtLines
set_option linter.unusedSimpArgs false
set_option linter.unusedVariables false
namespace Go.Proofs.YtjjmgnllhihoeaaGreatFmt
open Go.RowKit
attribute [local go_sem ↓] Go.wp_at_zero Go.wp_at_succ

/-- Some pointer, new blocks alone. -/
def SrcP (w : World) (e : Ending) (w' : World) : Prop := ∃ a : Option Addr, e = .returned (.pointer a) ∧ Below w.heap.size w w'

set_option maxRecDepth 100000 in
set_option maxHeartbeats 6400000 in
theorem source_any (f s : ByteArray) (w : World) (hs : s.size ≤ 100000) : Calls Tryz.prog 47 #[.string f, .string s] w (SrcP w) := by
  obtain ⟨i0, hi0, hz0, hz1, hz2⟩ := info_parts Tryz.info9'
  have hb0 := Lib.fresh_isBuffer 89 5 w
  have hls : LS s w.heap.size w.heap.size (w.heap.size + 1) 0 [] (.slice none 0 0) [] ((w.alloc (.cells #[.slice none 0 0, .int .i64 0, .int .i8 0] 89)).alloc (.stringIter s 0)) :=
    ⟨by have := heap_alloc_new (w.alloc (.cells #[.slice none 0 0, .int .i64 0, .int .i8 0] 89)) (.stringIter s 0); simpa using this, hb0.alloc _, World.ownsRow_nil _ _ _ _, by omega⟩
  have hB0 : Below w.heap.size w ((w.alloc (.cells #[.slice none 0 0, .int .i64 0, .int .i8 0] 89)).alloc (.stringIter s 0)) := ((Below.refl _ w).alloc (Nat.le_refl _) _).alloc (by simp) _
  have H0 := Lib.hid hls
  have HB := Lib.hid hB0
  clear hls hB0 hb0
  go_enter Tryz.func47, Tryz.ntmps47
  go_wp2_with fail
  go_loopg [5] s.size (fun k x5 wr => ∃ (pos : Nat) (acc : List UInt8) (ls : List ByteArray), LS s w.heap.size w.heap.size (w.heap.size + 1) pos acc x5 ls wr ∧ Below w.heap.size w wr ∧ pos ≤ s.size ∧ s.size - pos ≤ k ∧ acc.length + 4 * ls.length ≤ 4 * pos)
  case atStart => exact ⟨0, [], [], H0.out, HB.out, Nat.zero_le _, Nat.le_refl _, by simp⟩
  case round =>
    obtain ⟨pos, acc, ls, hL, hb, hp, hk, hl⟩ := hrel
    have HL := Lib.hid hL
    have HBb := Lib.hid hb
    have HK := Lib.hid hk
    clear hL hb hk H0 HB
    by_cases hps : pos < s.size
    · have hnx : ∀ ty, (Instr.next (.pointer (some ⟨w.heap.size + 1, 0, none⟩)) true ty).run Tryz.prog wr = _ := fun ty => Lib.run_next_any_at wr (w.heap.size + 1) s pos ty HL.out.it hps
      have HL2 := Lib.hid (HL.out.moved (pos + (Utf8.decode s pos).2))
      have HB2 := Lib.hid (Lib.below_iterAt HBb.out (k := w.heap.size + 1) (by omega) s (pos + (Utf8.decode s pos).2))
      have hw1 := Lib.width_pos s pos
      have hr3 := decode_le s pos
      have hnl : pos + (Utf8.decode s pos).2 ≤ s.size := by
        have := (nx_le s pos (by omega)).2
        rw [(decode_low s pos hps).2] at this
        exact this
      generalize wr.iterAt (w.heap.size + 1) s (pos + (Utf8.decode s pos).2) = W1 at *
      generalize Utf8.decode s pos = d at *
      obtain ⟨r, k⟩ := d
      simp only at hw1 hr3 hnl
      have hi1 : -2147483648 ≤ (r : Int) := by omega
      have hi2 : (r : Int) ≤ 2147483647 := by omega
      by_cases hr : r = 10
      · subst hr
        as_aux_lemma =>
        have hen := enc_len ((10 : Nat) : Int)
        go_wp2_with (first
          | (go_at_call 51; refine (ls_write HL2.out _ (by omega) (by omega) (by omega)).mono ?_; rintro e w2 ⟨⟨kk, rfl⟩, hL2, hb2⟩)
          | (go_at_call 52; refine (ls_string hL2).mono ?_; rintro e w3 ⟨rfl, hL3, hb3⟩)
          | (at_builtin; refine wpList_append_lies _ (by rfl) _ _ _ (by rfl) w.heap.size 9 i0 _ 1 16 Tryz.underlying25 hi0 hz0 hz1 hz2 rfl (by omega) _ ls.length (ls.map Value.string) (by rfl) (hL3.row.alloc _) ⟨w3.heap.size, 0, none⟩ 1 1 [.string ⟨(acc ++ Lib.encodeRune 10).toArray⟩] (by rfl) (by rfl) (World.news_of_block (cs := #[.string ⟨(acc ++ Lib.encodeRune 10).toArray⟩]) (t := 9) (fr := (0, 0)) (heap_alloc_new w3 _)) (by simp [Value.oneCell']) (by omega) (by unfold maxLen; omega) (by omega) (by have := hL3.baseW; simp; omega) (w3.heap.size + 1) (by simp) ?_; intro g cap w4 hown4 hgrow4 hat4 hlt4)
          | (go_at_call 69; refine (ls_reset (LS.grown (ls' := ls ++ [⟨(acc ++ Lib.encodeRune 10).toArray⟩]) (hL3.old ((Below.refl _ w3).alloc (Nat.le_refl _) _)) hgrow4 (by rw [← push_str, List.length_append]; exact hown4))).mono ?_; rintro e w5 ⟨rfl, hL5, hb5⟩))
        have hbb := ((((HB2.out.trans hb2).trans hb3).alloc hL3.baseW (.cells #[.string ⟨(acc ++ Lib.encodeRune 10).toArray⟩] 9)).grown hgrow4 (by have := hL3.baseW; simp; omega) (fun k hk => (hL3.row.lt k hk).1)).trans hb5
        have hk' := HK.out
        go_roundg (gk - 1)
        case measure => omega
        case rel => exact ⟨pos + k, [], _, hL5, hbb, by omega, by omega, by simp; omega⟩
      · have x10 : ((r : Int) == 10) = false := by simp; omega
        clear hr
        as_aux_lemma =>
        go_wp2_with (first
          | (go_at_call 51; refine (ls_write HL2.out (r : Int) hi1 hi2 (by omega)).mono ?_; rintro e w2 ⟨⟨kk, rfl⟩, hL2, hb2⟩))
        have hk' := HK.out
        have hen := enc_len (r : Int)
        go_roundg (gk - 1)
        case measure => omega
        case rel => exact ⟨pos + k, _, ls, hL2, HB2.out.trans hb2, by omega, by omega, by simp; omega⟩
    · have hnx : ∀ ty, (Instr.next (.pointer (some ⟨w.heap.size + 1, 0, none⟩)) true ty).run Tryz.prog wr = _ := fun ty => Lib.run_next_end_at wr (w.heap.size + 1) s pos ty HL.out.it hps
      have hcat : acc.toArray.size + 1 ≤ 9223372036854775807 := by simp; omega
      have hcat2 : (ByteArray.mk acc.toArray).size + (ByteArray.mk #[10]).size ≤ 9223372036854775807 := by show acc.toArray.size + 1 ≤ _; simp; omega
      have hcat3 : acc.length + 1 ≤ 9223372036854775807 := by omega
      go_wp2_with (first
          | (go_at_call 52; refine (ls_string HL.out).mono ?_; rintro e w3 ⟨rfl, hL3, hb3⟩)
          | (at_builtin; refine wpList_append_lies _ (by rfl) _ _ _ (by rfl) w.heap.size 9 i0 _ 1 16 Tryz.underlying25 hi0 hz0 hz1 hz2 rfl (by omega) _ ls.length (ls.map Value.string) (by rfl) (hL3.row.alloc _) ⟨w3.heap.size, 0, none⟩ 1 1 [.string (⟨acc.toArray⟩ ++ ⟨#[10]⟩)] (by rfl) (by rfl) (World.news_of_block (cs := #[.string (⟨acc.toArray⟩ ++ ⟨#[10]⟩)]) (t := 9) (fr := (0, 0)) (heap_alloc_new w3 _)) (by simp [Value.oneCell']) (by omega) (by unfold maxLen; omega) (by omega) (by have := hL3.baseW; simp; omega) (w3.heap.size + 1) (by simp) ?_; intro g cap w4 hown4 hgrow4 hat4 hlt4))
      have hbb := (((HBb.out.trans hb3).alloc hL3.baseW (.cells #[.string (⟨acc.toArray⟩ ++ ⟨#[10]⟩)] 9)).grown hgrow4 (by have := hL3.baseW; simp; omega) (fun k hk => (hL3.row.lt k hk).1))
      go_ret
      exact ⟨_, rfl, hbb.alloc (Nat.le_trans hL3.baseW (by have := hgrow4.size; simp at this; omega)) _⟩

/-- The lexer made. -/
def MadeP (t : ByteArray) (w : World) (e : Ending) (w' : World) : Prop :=
  ∃ b : Nat, e = .returned (.pointer (some ⟨b, 0, none⟩)) ∧ LexI w.heap.size b t 0 0 0 0 w' ∧ Below w.heap.size w w'

set_option maxRecDepth 100000 in
set_option maxHeartbeats 6400000 in
theorem make_any (t : ByteArray) (w : World) (ht : t.size ≤ 100000) (h2 : 2 ≤ w.heap.size) (hT : Lib.Utf8Tabs 0 1 w) : Calls Tryz.prog 24 #[.string ⟨#[]⟩, .string ⟨#[]⟩, .string t] w (MadeP t w) := by
  go_enter Tryz.func24, Tryz.ntmps24
  go_wp2_with (go_at_call 47; refine (source_any _ t _ ht).mono ?_; rintro e w1 ⟨a, rfl, hb⟩)
  go_ret
  have hb2 : Below w.heap.size w (w1.alloc (.cells (lexCells t a (.slice none 0 0) (.slice none 0 0) 0 1 1 true 0 1 0) 69)) := hb.alloc hb.size _
  refine ⟨w1.heap.size, rfl, ?_, hb2⟩
  exact ⟨a, .slice none 0 0, .slice none 0 0, 1, 1, 1, 0, true, [], [], heap_alloc_new w1 _, World.ownsRow_nil _ _ _ _, World.ownsRow_nil _ _ _ _, by simp [Value.ownBlock], by simp [Value.ownBlock], .inl rfl, hb.size, h2, tabs_below hT h2 hb2, Nat.le_refl _, Nat.zero_le _, ht, fun j hj => absurd hj (Nat.not_lt_zero j)⟩
end Go.Proofs.YtjjmgnllhihoeaaGreatFmt

/- A text cut at its newlines. -/
import Derived.Test.YtjjmgnllhihoeaaGreatFmtStrip
set_option linter.unusedSimpArgs false
set_option linter.unusedVariables false
namespace Go.Proofs.YtjjmgnllhihoeaaGreatFmt
open Go.RowKit
attribute [local go_sem ↓] Go.wp_at_zero Go.wp_at_succ

theorem Tryz.info9' : (Tryz.prog.info? 9).map (fun i => (i.zero, i.size, i.bytes)) = some (some (.string ⟨#[]⟩), 1, 16) := by kernel_rfl

/-- What lineSplit holds: an iterator, a buffer, the lines so far. -/
structure LS (s : ByteArray) (B q I pos : Nat) (acc : List UInt8) (v : Value) (ls : List ByteArray) (w : World) : Prop where
  it : w.heap[I]? = some (.stringIter s pos)
  buf : Lib.IsBuffer 89 5 B q (Lib.byteCells acc) w
  row : w.ownsRow B 9 1 v ls.length (ls.map Value.string)
  base : B ≤ I

section
variable {s : ByteArray} {B q I pos : Nat} {acc : List UInt8} {v : Value} {ls : List ByteArray} {w w' : World}

theorem LS.baseW (h : LS s B q I pos acc v ls w) : B ≤ w.heap.size := Nat.le_of_lt (Nat.lt_of_le_of_lt h.base (Array.getElem?_eq_some_iff.1 h.it).1)

theorem row_of (h : w.ownsRow B 9 1 v ls.length (ls.map Value.string)) : ∀ g, v.ownBlock = some g → ∃ c, w.heap[g]? = some (.cells c 9 (0, 0)) := by
  intro g hg
  rcases h.2 with ⟨rfl, _⟩ | ⟨g', cap, cur, rfl, _, hgg, _⟩
  · simp [Value.ownBlock] at hg
  · simp [Value.ownBlock] at hg
    subst hg
    exact ⟨_, hgg⟩

theorem LS.old (h : LS s B q I pos acc v ls w) (hb : Below w.heap.size w w') : LS s B q I pos acc v ls w' :=
  ⟨by rw [hb.block I (Array.getElem?_eq_some_iff.1 h.it).1]; exact h.it, h.buf.old hb, by
    refine ⟨h.row.1, ?_⟩
    rcases h.row.2 with hn | ⟨g, cap, cur, hv, hg1, hg2, rest⟩
    · exact .inl hn
    · exact .inr ⟨g, cap, cur, hv, hg1, by rw [hb.block g (Array.getElem?_eq_some_iff.1 hg2).1]; exact hg2, rest⟩, h.base⟩

theorem LS.wrote (h : LS s B q I pos acc v ls w) {acc' : List UInt8} (hI : Lib.IsBuffer 89 5 B q (Lib.byteCells acc') w') (ho : Lib.OthersKept 5 (some q) w w') : LS s B q I pos acc' v ls w' := by
  obtain ⟨_, v0, lr, hbk, _⟩ := h.buf
  refine ⟨ho I _ h.it (fun e => ?_) (by intro c fz hh; cases hh), hI, ⟨h.row.1, ?_⟩, h.base⟩
  · have : I = q := Option.some.inj e
    subst this
    rw [h.it] at hbk; cases hbk
  · rcases h.row.2 with hn | ⟨g, cap, cur, hv, hg1, hg2, rest⟩
    · exact .inl hn
    · refine .inr ⟨g, cap, cur, hv, hg1, ho g _ hg2 (fun e => ?_) (by intro c fz hh; injection hh with _ h5 _; revert h5; decide), rest⟩
      have : g = q := Option.some.inj e
      subst this
      rw [hg2] at hbk; cases hbk

theorem LS.moved (h : LS s B q I pos acc v ls w) (pos' : Nat) : LS s B q I pos' acc v ls (w.iterAt I s pos') := by
  refine ⟨Lib.iterAt_heap w I s pos pos' h.it, h.buf.iterAt h.it pos', ⟨h.row.1, ?_⟩, h.base⟩
  rcases h.row.2 with hn | ⟨g, cap, cur, hv, hg1, hg2, rest⟩
  · exact .inl hn
  · refine .inr ⟨g, cap, cur, hv, hg1, ?_, rest⟩
    rw [Lib.iterAt_other _ _ _ _ _ (fun e => by subst e; rw [h.it] at hg2; cases hg2)]
    exact hg2

theorem LS.grown (h : LS s B q I pos acc v ls w) {v' : Value} {ls' : List ByteArray} (hg : w.grownBy w' v.ownBlock) (hr : w'.ownsRow B 9 1 v' ls'.length (ls'.map Value.string)) : LS s B q I pos acc v' ls' w' := by
  have hrow := row_of h.row
  have hq := h.buf.lt
  obtain ⟨hB, v0, lr, hbk, hown, hne⟩ := h.buf
  have hk : ∀ (k : Nat) (o : Obj), w.heap[k]? = some o → (∀ c, o ≠ Obj.cells c 9 (0, 0)) → w'.heap[k]? = some o := by
    intro k o hk ho
    rw [hg.block k (Array.getElem?_eq_some_iff.1 hk).1 (fun e => ?_)]
    · exact hk
    · obtain ⟨c, hc⟩ := hrow k e.symm
      rw [hk] at hc
      exact ho c (Option.some.inj hc)
  refine ⟨hk I _ h.it (by intro c hh; cases hh), ⟨hB, v0, lr, hk q _ hbk (by intro c hh; injection hh with _ h5 _; revert h5; decide), ⟨hown.1, ?_⟩, hne⟩, hr, h.base⟩
  rcases hown.2 with hn | ⟨g, cap, cur, hv, hg1, hg2, rest⟩
  · exact .inl hn
  · exact .inr ⟨g, cap, cur, hv, hg1, hk g _ hg2 (by intro c hh; injection hh with _ h5 _; revert h5; decide), rest⟩
end

section
variable {s : ByteArray} {B q I pos : Nat} {acc : List UInt8} {v : Value} {ls : List ByteArray} {w : World}
theorem ls_string (h : LS s B q I pos acc v ls w) : Calls Tryz.prog 52 #[.pointer (some ⟨q, 0, none⟩)] w (fun e w' => e = .returned (.string ⟨acc.toArray⟩) ∧ LS s B q I pos acc v ls w' ∧ Below B w w') :=
  (Tryz.Buffer_String B q acc w h.buf).mono fun _ _ ⟨he, k, hw⟩ => by
    subst hw
    exact ⟨he, h.old ⟨rfl, rfl, rfl, Nat.le_refl _, fun _ _ => rfl⟩, ⟨rfl, rfl, rfl, Nat.le_refl _, fun _ _ => rfl⟩⟩
theorem ls_write (h : LS s B q I pos acc v ls w) (r : Int) (hr0 : -2147483648 ≤ r) (hr1 : r ≤ 2147483647) (hl : acc.length ≤ 1000000) :
    Calls Tryz.prog 51 #[.pointer (some ⟨q, 0, none⟩), .int .i32 r] w (fun e w' => (∃ k : Int, e = .returned (.tuple #[.int .i64 k, .nilIface])) ∧ LS s B q I pos (acc ++ Lib.encodeRune r) v ls w' ∧ Below B w w') :=
  (Tryz.Buffer_WriteRune_k B q _ r hr0 hr1 w h.buf h.baseW (by intro v hv; simp [Lib.byteCells] at hv; obtain ⟨x, _, rfl⟩ := hv; rfl) (by simp [Lib.byteCells]; omega)).mono
    fun _ _ ⟨he, hI, hb, ho⟩ => ⟨⟨_, he⟩, h.wrote (by rw [Lib.byteCells_append, Lib.byteCells_encodeRune]; exact hI) ho, hb⟩
theorem ls_reset (h : LS s B q I pos acc v ls w) : Calls Tryz.prog 69 #[.pointer (some ⟨q, 0, none⟩)] w (fun e w' => e = .returned (.tuple #[]) ∧ LS s B q I pos [] v ls w' ∧ Below B w w') :=
  (Tryz.Buffer_Reset_k B q _ w h.buf).mono fun _ _ ⟨he, hI, hb, ho⟩ => ⟨he, h.wrote hI ho, hb⟩
end

/-- Lines, one at least; the first begins with the text's slash. -/
def LinesP (s : ByteArray) (w : World) (e : Ending) (w' : World) : Prop :=
  ∃ (g cap : Nat) (ls : List ByteArray), e = .returned (.slice (some ⟨g, 0, none⟩) ls.length cap) ∧ w'.ownsRow w.heap.size 9 1 (.slice (some ⟨g, 0, none⟩) ls.length cap) ls.length (ls.map Value.string) ∧
    0 < ls.length ∧ ls.length ≤ s.size + 1 ∧ ch (ls.getD 0 ByteArray.empty) 0 = 47 ∧ Below w.heap.size w w'

/-- The first line's slash: in the buffer, or in the first line laid. -/
def Slash (pos : Nat) (acc : List UInt8) (ls : List ByteArray) : Prop :=
  (ls = [] ∧ ((pos = 0 ∧ acc = []) ∨ acc[0]? = some 47)) ∨ (0 < ls.length ∧ ch (ls.getD 0 ByteArray.empty) 0 = 47)

theorem push_str (ls : List ByteArray) (x : ByteArray) : ls.map Value.string ++ [.string x] = (ls ++ [x]).map Value.string := by simp

theorem Slash.line {pos : Nat} {acc : List UInt8} {ls : List ByteArray} {x : ByteArray} (h : Slash pos acc ls) (hp : pos ≠ 0 ∨ acc ≠ []) (hx : ch ⟨acc.toArray⟩ 0 = 47 → ch x 0 = 47) (pos' : Nat) : Slash pos' [] (ls ++ [x]) := by
  refine .inr ⟨by simp, ?_⟩
  rcases h with ⟨rfl, h | h⟩ | ⟨h1, h2⟩
  · rcases hp with h3 | h3
    · exact absurd h.1 h3
    · exact absurd h.2 h3
  · show ch x 0 = 47
    apply hx
    cases acc with
    | nil => simp at h
    | cons a acc =>
      have : a = 47 := by simpa using h
      subst this
      unfold ch
      rw [dif_pos (by simp [ByteArray.size])]
      rfl
  · cases ls with
    | nil => simp at h1
    | cons l ls => exact h2

set_option maxRecDepth 100000 in
set_option maxHeartbeats 6400000 in
theorem lines_any (s : ByteArray) (mg : Int) (w : World) (hs : s.size ≤ 100000) (h47 : ch s 0 = 47) : Calls Tryz.prog 62 #[.string s, .int .i64 mg] w (LinesP s w) := by
  obtain ⟨i0, hi0, hz0, hz1, hz2⟩ := info_parts Tryz.info9'
  have hb0 := Lib.fresh_isBuffer 89 5 w
  have hls : LS s w.heap.size w.heap.size (w.heap.size + 1) 0 [] (.slice none 0 0) [] ((w.alloc (.cells #[.slice none 0 0, .int .i64 0, .int .i8 0] 89)).alloc (.stringIter s 0)) :=
    ⟨by have := heap_alloc_new (w.alloc (.cells #[.slice none 0 0, .int .i64 0, .int .i8 0] 89)) (.stringIter s 0); simpa using this, hb0.alloc _, World.ownsRow_nil _ _ _ _, by omega⟩
  have hB0 : Below w.heap.size w ((w.alloc (.cells #[.slice none 0 0, .int .i64 0, .int .i8 0] 89)).alloc (.stringIter s 0)) := ((Below.refl _ w).alloc (Nat.le_refl _) _).alloc (by simp) _
  have H0 := Lib.hid hls
  have HB := Lib.hid hB0
  clear hls hB0 hb0
  go_enter Tryz.func62, Tryz.ntmps62
  go_wp2_with fail
  go_loopg [5] s.size (fun k x5 wr => ∃ (pos : Nat) (acc : List UInt8) (ls : List ByteArray), LS s w.heap.size w.heap.size (w.heap.size + 1) pos acc x5 ls wr ∧ Below w.heap.size w wr ∧ pos ≤ s.size ∧ s.size - pos ≤ k ∧ acc.length + 4 * ls.length ≤ 4 * pos ∧ Slash pos acc ls)
  case atStart => exact ⟨0, [], [], H0.out, HB.out, Nat.zero_le _, Nat.le_refl _, by simp, .inl ⟨rfl, .inl ⟨rfl, rfl⟩⟩⟩
  case round =>
    obtain ⟨pos, acc, ls, hL, hb, hp, hk, hl, hS⟩ := hrel
    have HL := Lib.hid hL
    have HBb := Lib.hid hb
    have HK := Lib.hid hk
    have HS := Lib.hid hS
    clear hL hb hk hS H0 HB
    by_cases hps : pos < s.size
    · have hnx : ∀ ty, (Instr.next (.pointer (some ⟨w.heap.size + 1, 0, none⟩)) true ty).run Tryz.prog wr = _ := fun ty => Lib.run_next_any_at wr (w.heap.size + 1) s pos ty HL.out.it hps
      have HL2 := Lib.hid (HL.out.moved (pos + (Utf8.decode s pos).2))
      have HB2 := Lib.hid (Lib.below_iterAt HBb.out (k := w.heap.size + 1) (by omega) s (pos + (Utf8.decode s pos).2))
      have hw1 := Lib.width_pos s pos
      have hr3 := decode_le s pos
      have hd0 : pos = 0 → (Utf8.decode s pos).1 = 47 := by
        intro e; subst e
        have := (decode_low s 0 hps).1
        rw [(rv_low s 0 (by omega)).1, h47] at this
        omega
      have HD := Lib.hid hd0
      have hnl : pos + (Utf8.decode s pos).2 ≤ s.size := by
        have := (nx_le s pos (by omega)).2
        rw [(decode_low s pos hps).2] at this
        exact this
      clear hd0
      generalize wr.iterAt (w.heap.size + 1) s (pos + (Utf8.decode s pos).2) = W1 at *
      generalize Utf8.decode s pos = d at *
      obtain ⟨r, k⟩ := d
      simp only at hw1 hr3 hnl
      by_cases hr : r = 10
      · subst hr
        have hp0 : pos ≠ 0 := fun e => by have := HD.out e; omega
        go_wp2_with (first
          | (go_at_call 52; refine (ls_string HL2.out).mono ?_; rintro e w2 ⟨rfl, hL2, hb2⟩)
          | (go_at_call 80; refine (strip_any ⟨acc.toArray⟩ mg _ (by simp [ByteArray.size]; omega)).mono ?_; rintro e w3 ⟨x, rfl, hx, hb3⟩; have hL3 := hL2.old hb3)
          | (at_builtin; refine wpList_append_lies _ (by rfl) _ _ _ (by rfl) w.heap.size 9 i0 _ 1 16 Tryz.underlying25 hi0 hz0 hz1 hz2 rfl (by omega) _ ls.length (ls.map Value.string) (by rfl) (hL3.row.alloc _) ⟨w3.heap.size, 0, none⟩ 1 1 [.string x] (by rfl) (by rfl) (World.news_of_block (cs := #[.string x]) (t := 9) (fr := (0, 0)) (heap_alloc_new w3 _)) (by simp [Value.oneCell']) (by omega) (by unfold maxLen; omega) (by omega) (by have := hL3.baseW; simp; omega) (w3.heap.size + 1) (by simp) ?_; intro g cap w4 hown4 hgrow4 hat4 hlt4)
          | (go_at_call 69; refine (ls_reset (LS.grown (ls' := ls ++ [x]) (hL3.old ((Below.refl _ w3).alloc (Nat.le_refl _) _)) hgrow4 (by rw [← push_str, List.length_append]; exact hown4))).mono ?_; rintro e w5 ⟨rfl, hL5, hb5⟩))
        have hbb := ((((HB2.out.trans hb2).trans (hb3.mono hL2.baseW)).alloc hL3.baseW (.cells #[.string x] 9)).grown hgrow4 (by have := hL3.baseW; simp; omega) (fun k hk => (hL3.row.lt k hk).1)).trans hb5
        have hk' := HK.out
        go_roundg (gk - 1)
        case measure => omega
        case rel => exact ⟨pos + k, [], ls ++ [x], hL5, hbb, by omega, by omega, by simp; omega, HS.out.line (.inl hp0) hx _⟩
      · have x10 : ((r : Int) == 10) = false := by simp; omega
        have hi1 : -2147483648 ≤ (r : Int) := by omega
        have hi2 : (r : Int) ≤ 2147483647 := by omega
        clear hr
        go_wp2_with (first
          | (go_at_call 51; refine (ls_write HL2.out (r : Int) hi1 hi2 (by omega)).mono ?_; rintro e w2 ⟨⟨kk, rfl⟩, hL2, hb2⟩))
        have hk' := HK.out
        have hen := enc_len (r : Int)
        go_roundg (gk - 1)
        case measure => omega
        case rel =>
          refine ⟨pos + k, _, ls, hL2, HB2.out.trans hb2, by omega, by omega, by simp; omega, ?_⟩
          rcases HS.out with ⟨h1, h2 | h2⟩ | h1
          · have := HD.out h2.1
            subst this
            rw [h2.2]
            exact .inl ⟨h1, .inr (by decide)⟩
          · refine .inl ⟨h1, .inr ?_⟩
            cases acc with
            | nil => simp at h2
            | cons a acc => simpa using h2
          · exact .inr h1
    · have hnx : ∀ ty, (Instr.next (.pointer (some ⟨w.heap.size + 1, 0, none⟩)) true ty).run Tryz.prog wr = _ := fun ty => Lib.run_next_end_at wr (w.heap.size + 1) s pos ty HL.out.it hps
      have hp0 : pos ≠ 0 := by
        intro e
        have : 0 < s.size := by
          rcases Nat.eq_zero_or_pos s.size with h1 | h1
          · rw [ch_out s 0 (by omega)] at h47; omega
          · exact h1
        omega
      go_wp2_with (first
          | (go_at_call 52; refine (ls_string HL.out).mono ?_; rintro e w2 ⟨rfl, hL2, hb2⟩)
          | (go_at_call 80; refine (strip_any ⟨acc.toArray⟩ mg _ (by simp [ByteArray.size]; omega)).mono ?_; rintro e w3 ⟨x, rfl, hx, hb3⟩; have hL3 := hL2.old hb3)
          | (at_builtin; refine wpList_append_lies _ (by rfl) _ _ _ (by rfl) w.heap.size 9 i0 _ 1 16 Tryz.underlying25 hi0 hz0 hz1 hz2 rfl (by omega) _ ls.length (ls.map Value.string) (by rfl) (hL3.row.alloc _) ⟨w3.heap.size, 0, none⟩ 1 1 [.string x] (by rfl) (by rfl) (World.news_of_block (cs := #[.string x]) (t := 9) (fr := (0, 0)) (heap_alloc_new w3 _)) (by simp [Value.oneCell']) (by omega) (by unfold maxLen; omega) (by omega) (by have := hL3.baseW; simp; omega) (w3.heap.size + 1) (by simp) ?_; intro g cap w4 hown4 hgrow4 hat4 hlt4))
      have hbb := (((HBb.out.trans hb2).trans (hb3.mono hL2.baseW)).alloc hL3.baseW (.cells #[.string x] 9)).grown hgrow4 (by have := hL3.baseW; simp; omega) (fun k hk => (hL3.row.lt k hk).1)
      go_ret
      refine ⟨g, cap, ls ++ [x], by simp, by rw [← push_str]; simpa using hown4, by simp, by simp; omega, ?_, hbb⟩
      have h9 := HS.out.line (.inl hp0) hx 0
      rcases h9 with ⟨h9, _⟩ | h9
      · simp at h9
      · exact h9.2

end Go.Proofs.YtjjmgnllhihoeaaGreatFmt

/- emitToken; a piece of fodder put on safely. -/
import Derived.Test.YtjjmgnllhihoeaaGreatFmtFodder
set_option linter.unusedSimpArgs false
set_option linter.unusedVariables false
namespace Go.Proofs.YtjjmgnllhihoeaaGreatFmt
open Go.RowKit
attribute [local go_sem ↓] Go.wp_at_zero Go.wp_at_succ

/-- One token more, and the next begins here. -/
def EmitTP (B b : Nat) (t : ByteArray) (p n : Nat) (w : World) (e : Ending) (w' : World) : Prop := e = .returned (.tuple #[]) ∧ LexI B b t p p (n + 1) 0 w' ∧ Below B w w'

set_option maxRecDepth 100000 in
set_option maxHeartbeats 3200000 in
theorem emitToken_any (B b : Nat) (t : ByteArray) (p ts n m : Nat) (w : World) (h : LexI B b t p ts n m w) (hn : n ≤ 200000) (k : Int) :
    Calls Tryz.prog 30 #[.pointer (some ⟨b, 0, none⟩), .int .i64 k] w (EmitTP B b t p n w) := by
  obtain ⟨src, tv, fv, l1, l2, ln, ls, fr, xs, ys, h⟩ := h
  have hlt := h.lt
  have hbase := h.base
  have hB := h.hB
  obtain ⟨b1, b2, b3⟩ : ts ≤ p ∧ p ≤ t.size ∧ t.size ≤ 100000 := ⟨h.b1, h.b2, h.b3⟩
  have hI := Lib.hid h.i
  have hblk := h.blk
  clear h
  have i1 : (0 : Int) ≤ (ts : Int) := by omega
  have i2 : (ts : Int) ≤ (p : Int) := by omega
  have i3 : (p : Int) ≤ (t.size : Int) := by omega
  go_enter Tryz.func30, Tryz.ntmps30
  go_wp2_with fail
  refine wp_region_held_tail 16 16 (fun w' => w'.heap[b]? = some (.cells (lexCells t src tv fv ts l1 l2 fr p ln ls) 69 (0, 0))) (by kernel_rfl) (by kernel_rfl) (by intro c a' d' v' w' h'; cases d' <;> exact h') hblk ?_
  simp only [List.take_succ_cons, List.take_zero, List.drop_succ_cons, List.drop_zero]
  iterate 16
    refine wpHeld_cons ?_ (by rfl) (fun w' hSw => ?_) ?_
    rotate_left 1
    · obtain ⟨_, q2, _, _, _, q6, _, _, _, q10, _⟩ := cells_at hSw
      go_simp
      try with_reducible rfl
    simp only [Act.put, List.setIfInBounds_toArray, List.set_cons_zero, List.set_cons_succ]
  refine wpHeld_nil ?_
  refine wpMid_nil ?_
  go_wp2_with (go_at_call 34; refine (emitFull_any B b t p ts n m _ ?_ hn _ _ _ _).mono ?_; exact LexI.old hI.out ⟨rfl, rfl, rfl, Nat.le_refl _, fun _ _ => rfl⟩; rintro e w1 ⟨rfl, hl1, hb1⟩)
  go_wp2_with (go_at_call 28; refine (reset_any B b t p ts (n + 1) 0 _ hl1).mono ?_; rintro e w2 ⟨rfl, hl2, hg2⟩)
  go_end0
  exact ⟨rfl, hl2, ((⟨hb1.os, hb1.tape, hb1.output, hb1.size, hb1.block⟩ : Below B w w1)).grown hg2 (Nat.le_trans hbase hb1.size) (fun k hk => by cases hk; exact hB)⟩

theorem fod_cell {w : World} {B m : Nat} {fv : Value} {ys : List Value} (h : w.ownsRow B 84 4 fv m ys) (ht : ∀ j, j < m → ∃ k : Int, ys[4 * j + 1]? = some (.int .i64 k)) (hm : 0 < m) :
    ∃ g cap k, fv = .slice (some ⟨g, 0, none⟩) m cap ∧ w.cell? ⟨g, (m - 1) * 4 + 1, none⟩ = some (.int .i64 k) := by
  rcases h.2 with ⟨_, h0⟩ | ⟨g, cap, cur, hv, _, hb, _, _, _, hx⟩
  · omega
  · obtain ⟨k, hk⟩ := ht (m - 1) (by omega)
    refine ⟨g, cap, k, hv, ?_⟩
    rw [← hx, List.getElem?_take_of_lt (by omega)] at hk
    simp only [World.cell?, hb]
    rw [show (m - 1) * 4 + 1 = 4 * (m - 1) + 1 by omega]
    simpa using hk

/-- Some Bool, nothing written. -/
def AnyB (w : World) (e : Ending) (w' : World) : Prop := ∃ x : Bool, e = .returned (.bool x) ∧ Below w.heap.size w w'

set_option maxHeartbeats 3200000 in
theorem cleanEnd_any (w : World) (B m : Nat) (fv : Value) (ys : List Value) (h : w.ownsRow B 84 4 fv m ys) (ht : ∀ j, j < m → ∃ k : Int, ys[4 * j + 1]? = some (.int .i64 k)) (hm : m ≤ 1000000) :
    Calls Tryz.prog 87 #[fv] w (AnyB w) := by
  by_cases h0 : 0 < m
  · obtain ⟨g, cap, k, rfl, hc⟩ := fod_cell h ht h0
    clear h ht
    have i0 : decide ((m : Int) > 0) = true := by simp; omega
    have i1 : IntKind.i64.wrap ((m : Int) - 1) = ((m - 1 : Nat) : Int) := by
      rw [IntKind.wrap_i64]
      omega
    have i2 : ((m - 1 : Nat) : Int) < (m : Int) := by omega
    have i3 : (0 : Int) ≤ ((m - 1 : Nat) : Int) := by omega
    go_enter Tryz.func87, Tryz.ntmps87
    go_wp2_with fail
    refine bodyPost_ret (v := .bool (k != 1)) (by simp [results, Tryz.results87, go_sem]) rfl ⟨_, rfl, Below.refl _ _⟩
  · have hm0 : m = 0 := by omega
    subst hm0
    have hv : ∃ a c, fv = .slice a 0 c := by
      rcases h.2 with ⟨hv, _⟩ | ⟨g, cap, cur, hv, _⟩
      · exact ⟨_, _, hv⟩
      · exact ⟨_, _, hv⟩
    obtain ⟨a, c, rfl⟩ := hv
    go_enter Tryz.func87, Tryz.ntmps87
    go_wp2_with fail
    refine bodyPost_ret (v := .bool false) (by simp [results, Tryz.results87, go_sem]) rfl ⟨_, rfl, Below.refl _ _⟩

/-- One or two pieces of fodder more. -/
def SafeP (B b : Nat) (t : ByteArray) (p ts n m : Nat) (w : World) (e : Ending) (w' : World) : Prop := e = .returned (.tuple #[]) ∧ (∃ m', m' ≤ m + 2 ∧ LexI B b t p ts n m' w') ∧ Below B w w'

set_option maxRecDepth 100000 in
set_option maxHeartbeats 3200000 in
theorem append_any (B b : Nat) (t : ByteArray) (p ts n m : Nat) (w : World) (h : LexI B b t p ts n m w) (hm : m ≤ 999990) (bl ind : Int) (a : Option Addr) (q c : Nat) (hq : 0 < q) :
    Calls Tryz.prog 81 #[.pointer (some ⟨b, 5, none⟩), .agg #[.slice a q c, .int .i64 2, .int .i64 bl, .int .i64 ind]] w (SafeP B b t p ts n m w) := by
  obtain ⟨src, tv, fv, l1, l2, ln, ls, fr, xs, ys, h⟩ := h
  obtain ⟨i0, hi0, hz0, hz1, hz2⟩ := info_parts Tryz.info84
  have hlt := h.lt
  have hbase := h.base
  have hB := h.hB
  have hW : Below w.heap.size w (w.alloc (.cells #[.slice a q c, .int .i64 2, .int .i64 bl, .int .i64 ind] 84)) := (Below.refl _ w).alloc (Nat.le_refl _) _
  have hb0 := (heap_alloc_new w (.cells #[.slice a q c, .int .i64 2, .int .i64 bl, .int .i64 ind] 84))
  have h1 := h.old hW
  obtain ⟨_, fa, fc, rfl⟩ := h.forms
  have d5 := h1.cells.2.2.2.2.1
  have FF := h.fod
  clear h
  go_enter Tryz.func81, Tryz.ntmps81
  go_wp2_with fail
  refine (cleanEnd_any _ B m (.slice fa m fc) ys h1.fod h1.ty (by omega)).mono ?_
  rintro e w1 ⟨x1, rfl, hb1⟩
  have hk1 : w1.heap[w.heap.size]? = some (.cells #[.slice a q c, .int .i64 2, .int .i64 bl, .int .i64 ind] 84 (0, 0)) := by rw [hb1.block _ (by simp)]; exact hb0
  have hB1 : Below w.heap.size w w1 := hW.trans (hb1.mono (by simp))
  have h2 := h1.old hb1
  have hh1 : w.heap.size < w1.heap.size := (Array.getElem?_eq_some_iff.1 hk1).1
  have d5 := h2.cells.2.2.2.2.1
  have e1 : w1.cell? ⟨w.heap.size, 1, none⟩ = some (.int .i64 2) := by simp [World.cell?, hk1]
  have e3 : w1.cell? ⟨w.heap.size, 3, none⟩ = some (.int .i64 ind) := by simp [World.cell?, hk1]
  clear h1 hb1 hW hb0
  have hhw : w.heap.size ≤ w.heap.size := Nat.le_refl _
  generalize hh : w.heap.size = hb at hhw hk1 hh1 e1 e3 ⊢
  have G2 := Lib.hid h2
  have GB := Lib.hid hB1
  clear hB1
  have hF : w.ownsRow B 84 4 (.slice fa m fc) m ys := FF
  cases x1
  · go_wp2_with fail
    refine (cleanEnd_any _ B m (.slice fa m fc) ys G2.out.fod G2.out.ty (by omega)).mono ?_
    rintro e w2 ⟨x2, rfl, hb2⟩
    have h3 := G2.out.old hb2
    have hk2 : w2.heap[hb]? = some (.cells #[.slice a q c, .int .i64 2, .int .i64 bl, .int .i64 ind] 84 (0, 0)) := by rw [hb2.block _ hh1]; exact hk1
    have e1 : w2.cell? ⟨hb, 1, none⟩ = some (.int .i64 2) := by simp [World.cell?, hk2]
    have hbel : Below B w w2 := (GB.out.mono hbase).trans (hb2.mono G2.out.base)
    cases x2
    · go_wp2_with fail
      clear e1 e3 d5
      refine wp_region_held_tail 6 10 (fun w' => w'.heap[b]? = some (.cells (lexCells t src tv (.slice fa m fc) ts l1 l2 fr p ln ls) 69 (0, 0)) ∧ w'.heap[hb]? = some (.cells #[.slice a q c, .int .i64 2, .int .i64 bl, .int .i64 ind] 84 (0, 0))) (by kernel_rfl) (by kernel_rfl) (by intro c a' d' v' w' h'; cases d' <;> exact h') ⟨h3.blk, hk2⟩ ?_
      simp only [List.take_succ_cons, List.take_zero, List.drop_succ_cons, List.drop_zero]
      iterate 6
        refine wpHeld_cons ?_ (by rfl) (fun w' hSw => ?_) ?_
        rotate_left 1
        · obtain ⟨q1, q2⟩ := hSw
          obtain ⟨_, _, _, _, q5, _⟩ := cells_at q1
          have z3 : w'.cell? ⟨hb, 3, none⟩ = some (.int .i64 ind) := by simp [World.cell?, q2]
          go_simp
          try with_reducible rfl
        simp only [Act.put, List.setIfInBounds_toArray, List.set_cons_zero, List.set_cons_succ]
      refine wpHeld_nil ?_
      have hhW0 : hb < w2.heap.size := (Array.getElem?_eq_some_iff.1 hk2).1
      have hA0 : Below w2.heap.size w2 (w2.alloc (.cells #[] 9)).drew := ((Below.refl _ w2).alloc (Nat.le_refl _) _).drew
      refine wpMid_cons (fun K hK => ?_)
      go_simp
      refine hK _ _ ⟨(h3.old hA0).blk, by rw [hA0.block hb hhW0]; exact hk2⟩ ?_
      clear hK K
      refine wpMid_cons (fun K hK => ?_)
      go_simp
      refine (makeFodder_any 0 0 ind _ 0 0 _ (.inl ⟨rfl, by omega⟩)).mono ?_
      rintro e w5 ⟨rfl, hb5⟩
      have hA5 : Below w2.heap.size w2 w5 := hA0.trans (hb5.mono hA0.size)
      have h5 := h3.old hA5
      have hk5 : w5.heap[hb]? = some (.cells #[.slice a q c, .int .i64 2, .int .i64 bl, .int .i64 ind] 84 (0, 0)) := by rw [hA5.block hb hhW0]; exact hk2
      have hh5 : hb < w5.heap.size := (Array.getElem?_eq_some_iff.1 hk5).1
      refine hK _ _ ⟨h5.blk, hk5⟩ ?_
      clear hK K
      refine wpMid_cons (fun K hK => ?_)
      go_simp
      have hA6 : Below w5.heap.size w5 (w5.alloc (.cells #[.slice (some ⟨w2.heap.size, 0, none⟩) 0 0, .int .i64 0, .int .i64 0, .int .i64 ind] 84)) := ((Below.refl _ w5).alloc (Nat.le_refl _) _)
      refine hK _ _ ⟨(h5.old hA6).blk, by rw [hA6.block hb hh5]; exact hk5⟩ ?_
      clear hK K
      refine wpMid_cons (fun K hK => ?_)
      refine step_append_lies _ (by rfl) _ _ _ (by rfl) B 84 i0 _ 4 48 Tryz.underlying65 hi0 hz0 hz1 hz2 rfl (by omega) (.slice fa m fc) m ys (by rfl) (h5.fod.alloc _) ⟨w5.heap.size, 0, none⟩ 1 1 [.slice (some ⟨w2.heap.size, 0, none⟩) 0 0, .int .i64 0, .int .i64 0, .int .i64 ind] (by rfl) (by rfl) (World.news_of_block (cs := #[.slice (some ⟨w2.heap.size, 0, none⟩) 0 0, .int .i64 0, .int .i64 0, .int .i64 ind]) (t := 84) (fr := (0, 0)) (heap_alloc_new w5 _)) (by simp [Value.oneCell']) (by omega) (by unfold maxLen; omega) (by omega) (by have := h5.base; simp; omega) (w5.heap.size + 1) (by simp) ?_
      intro g cap w6 hown6 hgrow6 hat6 hlt6
      have h6 := h5.farFod hA6 hgrow6
      have hk6 : w6.heap[hb]? = some (.cells #[.slice a q c, .int .i64 2, .int .i64 bl, .int .i64 ind] 84 (0, 0)) := by
        rw [hgrow6.block hb (by have := hA6.size; omega) (fun e => by have := (hF.lt hb e.symm).2; omega), hA6.block hb hh5]
        exact hk5
      refine hK _ _ ⟨h6, hk6⟩ ?_
      clear hK K
      have h7 := (h5.old hA6).newFod hown6 hgrow6 (hat6.imp id (fun e => by simpa using e)) (h5.tyMore _ _ _ _)
      obtain ⟨_, _, _, _, y5, _, _, _, _, _, _, _, yf⟩ := cells_at h6
      have y5f := yf 5
      have H7 := Lib.hid h7
      have HB7 : Below B w (w6.setCell ⟨b, 5, none⟩ (.slice (some ⟨g, 0, none⟩) (m + 1) cap)) := by
        refine Below.setCell ?_ hB _
        exact (((hbel).trans (hA5.mono h3.base)).trans (hA6.mono h5.base)).grown hgrow6 (by have := (h5.old hA6).base; exact this) (fun k hk => (h5.fod.lt k hk).1)
      have hgb : g ≠ hb := by
        rcases hat6 with h1 | h1
        · intro e; have := (hF.lt g h1).2; omega
        · have := hA6.size; intro e; subst e; omega
      have hne8 : (Value.slice (some ⟨g, 0, none⟩) (m + 1) cap).ownBlock ≠ some hb := by simp [Value.ownBlock]; exact hgb
      have hk7 : (w6.setCell ⟨b, 5, none⟩ (.slice (some ⟨g, 0, none⟩) (m + 1) cap)).heap[hb]? = some (.cells #[.slice a q c, .int .i64 2, .int .i64 bl, .int .i64 ind] 84 (0, 0)) := by
        rw [(Lib.grownBy_setCell w6 b 5 _).block hb (Array.getElem?_eq_some_iff.1 hk6).1 (fun e => by cases e; omega)]
        exact hk6
      clear h7 h6 h5 hown6 yf
      refine wpMid_nil ?_
      go_wp2_with fail
      clear y5 y5f
      generalize w6.setCell ⟨b, 5, none⟩ (.slice (some ⟨g, 0, none⟩) (m + 1) cap) = w7 at H7 HB7 hk7 ⊢
      refine wp_region_held_tail 5 7 (fun w' => w'.heap[b]? = some (.cells (lexCells t src tv (.slice (some ⟨g, 0, none⟩) (m + 1) cap) ts l1 l2 fr p ln ls) 69 (0, 0)) ∧ w'.heap[hb]? = some (.cells #[.slice a q c, .int .i64 2, .int .i64 bl, .int .i64 ind] 84 (0, 0))) (by kernel_rfl) (by kernel_rfl) (by intro c a' d' v' w' h'; cases d' <;> exact h') ⟨H7.out.blk, hk7⟩ ?_
      simp only [List.take_succ_cons, List.take_zero, List.drop_succ_cons, List.drop_zero]
      iterate 5
        refine wpHeld_cons ?_ (by rfl) (fun w' hSw => ?_) ?_
        rotate_left 1
        · obtain ⟨q1, q2⟩ := hSw
          obtain ⟨_, _, _, _, q5, _⟩ := cells_at q1
          have z0 : w'.cell? ⟨hb, 0, none⟩ = some (.slice a q c) := by simp [World.cell?, q2]
          have z1 : w'.cell? ⟨hb, 1, none⟩ = some (.int .i64 2) := by simp [World.cell?, q2]
          have z2 : w'.cell? ⟨hb, 2, none⟩ = some (.int .i64 bl) := by simp [World.cell?, q2]
          have z3 : w'.cell? ⟨hb, 3, none⟩ = some (.int .i64 ind) := by simp [World.cell?, q2]
          go_simp
          try with_reducible rfl
        simp only [Act.put, List.setIfInBounds_toArray, List.set_cons_zero, List.set_cons_succ]
      refine wpHeld_nil ?_
      refine wpMid_cons (fun K hK => ?_)
      go_simp
      have hAl : Below w7.heap.size w7 (w7.alloc (.cells #[.slice a q c, .int .i64 2, .int .i64 bl, .int .i64 ind] 84)).drew := ((Below.refl _ w7).alloc (Nat.le_refl _) _).drew
      have hhW : hb < w7.heap.size := (Array.getElem?_eq_some_iff.1 hk7).1
      refine hK _ _ ⟨(H7.out.old hAl).blk, by rw [hAl.block hb hhW]; exact hk7⟩ ?_
      clear hK K
      refine wpMid_cons (fun K hK => ?_)
      refine step_append_lies _ (by rfl) _ _ _ (by rfl) B 84 i0 _ 4 48 Tryz.underlying65 hi0 hz0 hz1 hz2 rfl (by omega) (.slice (some ⟨g, 0, none⟩) (m + 1) cap) (m + 1) _ (by rfl) (H7.out.old hAl).fod ⟨w7.heap.size, 0, none⟩ 1 1 [.slice a q c, .int .i64 2, .int .i64 bl, .int .i64 ind] (by rfl) (by rfl) (World.news_of_block (cs := #[.slice a q c, .int .i64 2, .int .i64 bl, .int .i64 ind]) (t := 84) (fr := (0, 0)) (heap_alloc_new w7 _)) (by simp [Value.oneCell']) (by omega) (by unfold maxLen; omega) (by omega) (by have := H7.out.base; simp; omega) (w7.heap.size + 1) (by simp) ?_
      intro gb capb w9 hown9 hgrow9 hat9 hlt9
      have h9 := H7.out.farFod hAl hgrow9
      have h9h : w9.heap[hb]? = some (.cells #[.slice a q c, .int .i64 2, .int .i64 bl, .int .i64 ind] 84 (0, 0)) := by
        rw [hgrow9.block hb (by have := hAl.size; omega) (fun e => hne8 e.symm), hAl.block hb hhW]
        exact hk7
      refine hK _ _ ⟨h9, h9h⟩ ?_
      clear hK K
      have h10 := (H7.out.old hAl).newFod hown9 hgrow9 (hat9.imp id (fun e => by simpa using e)) (H7.out.tyMore _ _ _ _)
      obtain ⟨_, _, _, _, y5, _, _, _, _, _, _, _, yf⟩ := cells_at h9
      have y5f := yf 5
      have H10 := Lib.hid h10
      have HB10 : Below B w (w9.setCell ⟨b, 5, none⟩ (.slice (some ⟨gb, 0, none⟩) ((m + 1) + 1) capb)) := by
        refine Below.setCell ?_ hB _
        exact ((HB7).trans (hAl.mono H7.out.base)).grown hgrow9 (by have := (H7.out.old hAl).base; exact this) (fun k hk => (H7.out.fod.lt k hk).1)
      clear h10 h9 hown9 yf
      refine wpMid_nil ?_
      go_wp2_with fail
      go_end0
      exact ⟨rfl, ⟨_, by omega, H10.out.i⟩, HB10⟩
    · go_wp2_with fail
      clear e1 e3 d5
      refine wp_region_held_tail 5 7 (fun w' => w'.heap[b]? = some (.cells (lexCells t src tv (.slice fa m fc) ts l1 l2 fr p ln ls) 69 (0, 0)) ∧ w'.heap[hb]? = some (.cells #[.slice a q c, .int .i64 2, .int .i64 bl, .int .i64 ind] 84 (0, 0))) (by kernel_rfl) (by kernel_rfl) (by intro c a' d' v' w' h'; cases d' <;> exact h') ⟨h3.blk, hk2⟩ ?_
      simp only [List.take_succ_cons, List.take_zero, List.drop_succ_cons, List.drop_zero]
      iterate 5
        refine wpHeld_cons ?_ (by rfl) (fun w' hSw => ?_) ?_
        rotate_left 1
        · obtain ⟨q1, q2⟩ := hSw
          obtain ⟨_, _, _, _, q5, _⟩ := cells_at q1
          have z0 : w'.cell? ⟨hb, 0, none⟩ = some (.slice a q c) := by simp [World.cell?, q2]
          have z1 : w'.cell? ⟨hb, 1, none⟩ = some (.int .i64 2) := by simp [World.cell?, q2]
          have z2 : w'.cell? ⟨hb, 2, none⟩ = some (.int .i64 bl) := by simp [World.cell?, q2]
          have z3 : w'.cell? ⟨hb, 3, none⟩ = some (.int .i64 ind) := by simp [World.cell?, q2]
          go_simp
          try with_reducible rfl
        simp only [Act.put, List.setIfInBounds_toArray, List.set_cons_zero, List.set_cons_succ]
      refine wpHeld_nil ?_
      refine wpMid_cons (fun K hK => ?_)
      go_simp
      have hAl : Below w2.heap.size w2 (w2.alloc (.cells #[.slice a q c, .int .i64 2, .int .i64 bl, .int .i64 ind] 84)).drew := ((Below.refl _ w2).alloc (Nat.le_refl _) _).drew
      have hhW : hb < w2.heap.size := (Array.getElem?_eq_some_iff.1 hk2).1
      refine hK _ _ ⟨(h3.old hAl).blk, by rw [hAl.block hb hhW]; exact hk2⟩ ?_
      clear hK K
      refine wpMid_cons (fun K hK => ?_)
      refine step_append_lies _ (by rfl) _ _ _ (by rfl) B 84 i0 _ 4 48 Tryz.underlying65 hi0 hz0 hz1 hz2 rfl (by omega) (.slice fa m fc) m ys (by rfl) (h3.old hAl).fod ⟨w2.heap.size, 0, none⟩ 1 1 [.slice a q c, .int .i64 2, .int .i64 bl, .int .i64 ind] (by rfl) (by rfl) (World.news_of_block (cs := #[.slice a q c, .int .i64 2, .int .i64 bl, .int .i64 ind]) (t := 84) (fr := (0, 0)) (heap_alloc_new w2 _)) (by simp [Value.oneCell']) (by omega) (by unfold maxLen; omega) (by omega) (by have := h3.base; simp; omega) (w2.heap.size + 1) (by simp) ?_
      intro ga capa w9 hown9 hgrow9 hat9 hlt9
      have h9 := h3.farFod hAl hgrow9
      have h9h : w9.heap[hb]? = some (.cells #[.slice a q c, .int .i64 2, .int .i64 bl, .int .i64 ind] 84 (0, 0)) := by
        rw [hgrow9.block hb (by have := hAl.size; omega) (fun e => by have := (hF.lt hb e.symm).2; omega), hAl.block hb hhW]
        exact hk2
      refine hK _ _ ⟨h9, h9h⟩ ?_
      clear hK K
      have h10 := (h3.old hAl).newFod hown9 hgrow9 (hat9.imp id (fun e => by simpa using e)) (h3.tyMore _ _ _ _)
      obtain ⟨_, _, _, _, y5, _, _, _, _, _, _, _, yf⟩ := cells_at h9
      have y5f := yf 5
      have H10 := Lib.hid h10
      have HB10 : Below B w (w9.setCell ⟨b, 5, none⟩ (.slice (some ⟨ga, 0, none⟩) (m + 1) capa)) := by
        refine Below.setCell ?_ hB _
        exact ((hbel).trans (hAl.mono h3.base)).grown hgrow9 (by have := (h3.old hAl).base; exact this) (fun k hk => (h3.fod.lt k hk).1)
      clear h10 h9 hown9 yf
      refine wpMid_nil ?_
      go_wp2_with fail
      go_end0
      exact ⟨rfl, ⟨_, by omega, H10.out.i⟩, HB10⟩
  · go_wp2_with fail
    refine (cleanEnd_any _ B m (.slice fa m fc) ys G2.out.fod G2.out.ty (by omega)).mono ?_
    rintro e w2 ⟨x2, rfl, hb2⟩
    have h3 := G2.out.old hb2
    have hk2 : w2.heap[hb]? = some (.cells #[.slice a q c, .int .i64 2, .int .i64 bl, .int .i64 ind] 84 (0, 0)) := by rw [hb2.block _ hh1]; exact hk1
    have e1 : w2.cell? ⟨hb, 1, none⟩ = some (.int .i64 2) := by simp [World.cell?, hk2]
    have hbel : Below B w w2 := (GB.out.mono hbase).trans (hb2.mono G2.out.base)
    cases x2
    · go_wp2_with fail
      clear e1 e3 d5
      refine wp_region_held_tail 6 10 (fun w' => w'.heap[b]? = some (.cells (lexCells t src tv (.slice fa m fc) ts l1 l2 fr p ln ls) 69 (0, 0)) ∧ w'.heap[hb]? = some (.cells #[.slice a q c, .int .i64 2, .int .i64 bl, .int .i64 ind] 84 (0, 0))) (by kernel_rfl) (by kernel_rfl) (by intro c a' d' v' w' h'; cases d' <;> exact h') ⟨h3.blk, hk2⟩ ?_
      simp only [List.take_succ_cons, List.take_zero, List.drop_succ_cons, List.drop_zero]
      iterate 6
        refine wpHeld_cons ?_ (by rfl) (fun w' hSw => ?_) ?_
        rotate_left 1
        · obtain ⟨q1, q2⟩ := hSw
          obtain ⟨_, _, _, _, q5, _⟩ := cells_at q1
          have z3 : w'.cell? ⟨hb, 3, none⟩ = some (.int .i64 ind) := by simp [World.cell?, q2]
          go_simp
          try with_reducible rfl
        simp only [Act.put, List.setIfInBounds_toArray, List.set_cons_zero, List.set_cons_succ]
      refine wpHeld_nil ?_
      have hhW0 : hb < w2.heap.size := (Array.getElem?_eq_some_iff.1 hk2).1
      have hA0 : Below w2.heap.size w2 (w2.alloc (.cells #[] 9)).drew := ((Below.refl _ w2).alloc (Nat.le_refl _) _).drew
      refine wpMid_cons (fun K hK => ?_)
      go_simp
      refine hK _ _ ⟨(h3.old hA0).blk, by rw [hA0.block hb hhW0]; exact hk2⟩ ?_
      clear hK K
      refine wpMid_cons (fun K hK => ?_)
      go_simp
      refine (makeFodder_any 0 0 ind _ 0 0 _ (.inl ⟨rfl, by omega⟩)).mono ?_
      rintro e w5 ⟨rfl, hb5⟩
      have hA5 : Below w2.heap.size w2 w5 := hA0.trans (hb5.mono hA0.size)
      have h5 := h3.old hA5
      have hk5 : w5.heap[hb]? = some (.cells #[.slice a q c, .int .i64 2, .int .i64 bl, .int .i64 ind] 84 (0, 0)) := by rw [hA5.block hb hhW0]; exact hk2
      have hh5 : hb < w5.heap.size := (Array.getElem?_eq_some_iff.1 hk5).1
      refine hK _ _ ⟨h5.blk, hk5⟩ ?_
      clear hK K
      refine wpMid_cons (fun K hK => ?_)
      go_simp
      have hA6 : Below w5.heap.size w5 (w5.alloc (.cells #[.slice (some ⟨w2.heap.size, 0, none⟩) 0 0, .int .i64 0, .int .i64 0, .int .i64 ind] 84)) := ((Below.refl _ w5).alloc (Nat.le_refl _) _)
      refine hK _ _ ⟨(h5.old hA6).blk, by rw [hA6.block hb hh5]; exact hk5⟩ ?_
      clear hK K
      refine wpMid_cons (fun K hK => ?_)
      refine step_append_lies _ (by rfl) _ _ _ (by rfl) B 84 i0 _ 4 48 Tryz.underlying65 hi0 hz0 hz1 hz2 rfl (by omega) (.slice fa m fc) m ys (by rfl) (h5.fod.alloc _) ⟨w5.heap.size, 0, none⟩ 1 1 [.slice (some ⟨w2.heap.size, 0, none⟩) 0 0, .int .i64 0, .int .i64 0, .int .i64 ind] (by rfl) (by rfl) (World.news_of_block (cs := #[.slice (some ⟨w2.heap.size, 0, none⟩) 0 0, .int .i64 0, .int .i64 0, .int .i64 ind]) (t := 84) (fr := (0, 0)) (heap_alloc_new w5 _)) (by simp [Value.oneCell']) (by omega) (by unfold maxLen; omega) (by omega) (by have := h5.base; simp; omega) (w5.heap.size + 1) (by simp) ?_
      intro g cap w6 hown6 hgrow6 hat6 hlt6
      have h6 := h5.farFod hA6 hgrow6
      have hk6 : w6.heap[hb]? = some (.cells #[.slice a q c, .int .i64 2, .int .i64 bl, .int .i64 ind] 84 (0, 0)) := by
        rw [hgrow6.block hb (by have := hA6.size; omega) (fun e => by have := (hF.lt hb e.symm).2; omega), hA6.block hb hh5]
        exact hk5
      refine hK _ _ ⟨h6, hk6⟩ ?_
      clear hK K
      have h7 := (h5.old hA6).newFod hown6 hgrow6 (hat6.imp id (fun e => by simpa using e)) (h5.tyMore _ _ _ _)
      obtain ⟨_, _, _, _, y5, _, _, _, _, _, _, _, yf⟩ := cells_at h6
      have y5f := yf 5
      have H7 := Lib.hid h7
      have HB7 : Below B w (w6.setCell ⟨b, 5, none⟩ (.slice (some ⟨g, 0, none⟩) (m + 1) cap)) := by
        refine Below.setCell ?_ hB _
        exact (((hbel).trans (hA5.mono h3.base)).trans (hA6.mono h5.base)).grown hgrow6 (by have := (h5.old hA6).base; exact this) (fun k hk => (h5.fod.lt k hk).1)
      have hgb : g ≠ hb := by
        rcases hat6 with h1 | h1
        · intro e; have := (hF.lt g h1).2; omega
        · have := hA6.size; intro e; subst e; omega
      have hne8 : (Value.slice (some ⟨g, 0, none⟩) (m + 1) cap).ownBlock ≠ some hb := by simp [Value.ownBlock]; exact hgb
      have hk7 : (w6.setCell ⟨b, 5, none⟩ (.slice (some ⟨g, 0, none⟩) (m + 1) cap)).heap[hb]? = some (.cells #[.slice a q c, .int .i64 2, .int .i64 bl, .int .i64 ind] 84 (0, 0)) := by
        rw [(Lib.grownBy_setCell w6 b 5 _).block hb (Array.getElem?_eq_some_iff.1 hk6).1 (fun e => by cases e; omega)]
        exact hk6
      clear h7 h6 h5 hown6 yf
      refine wpMid_nil ?_
      go_wp2_with fail
      clear y5 y5f
      generalize w6.setCell ⟨b, 5, none⟩ (.slice (some ⟨g, 0, none⟩) (m + 1) cap) = w7 at H7 HB7 hk7 ⊢
      refine wp_region_held_tail 5 7 (fun w' => w'.heap[b]? = some (.cells (lexCells t src tv (.slice (some ⟨g, 0, none⟩) (m + 1) cap) ts l1 l2 fr p ln ls) 69 (0, 0)) ∧ w'.heap[hb]? = some (.cells #[.slice a q c, .int .i64 2, .int .i64 bl, .int .i64 ind] 84 (0, 0))) (by kernel_rfl) (by kernel_rfl) (by intro c a' d' v' w' h'; cases d' <;> exact h') ⟨H7.out.blk, hk7⟩ ?_
      simp only [List.take_succ_cons, List.take_zero, List.drop_succ_cons, List.drop_zero]
      iterate 5
        refine wpHeld_cons ?_ (by rfl) (fun w' hSw => ?_) ?_
        rotate_left 1
        · obtain ⟨q1, q2⟩ := hSw
          obtain ⟨_, _, _, _, q5, _⟩ := cells_at q1
          have z0 : w'.cell? ⟨hb, 0, none⟩ = some (.slice a q c) := by simp [World.cell?, q2]
          have z1 : w'.cell? ⟨hb, 1, none⟩ = some (.int .i64 2) := by simp [World.cell?, q2]
          have z2 : w'.cell? ⟨hb, 2, none⟩ = some (.int .i64 bl) := by simp [World.cell?, q2]
          have z3 : w'.cell? ⟨hb, 3, none⟩ = some (.int .i64 ind) := by simp [World.cell?, q2]
          go_simp
          try with_reducible rfl
        simp only [Act.put, List.setIfInBounds_toArray, List.set_cons_zero, List.set_cons_succ]
      refine wpHeld_nil ?_
      refine wpMid_cons (fun K hK => ?_)
      go_simp
      have hAl : Below w7.heap.size w7 (w7.alloc (.cells #[.slice a q c, .int .i64 2, .int .i64 bl, .int .i64 ind] 84)).drew := ((Below.refl _ w7).alloc (Nat.le_refl _) _).drew
      have hhW : hb < w7.heap.size := (Array.getElem?_eq_some_iff.1 hk7).1
      refine hK _ _ ⟨(H7.out.old hAl).blk, by rw [hAl.block hb hhW]; exact hk7⟩ ?_
      clear hK K
      refine wpMid_cons (fun K hK => ?_)
      refine step_append_lies _ (by rfl) _ _ _ (by rfl) B 84 i0 _ 4 48 Tryz.underlying65 hi0 hz0 hz1 hz2 rfl (by omega) (.slice (some ⟨g, 0, none⟩) (m + 1) cap) (m + 1) _ (by rfl) (H7.out.old hAl).fod ⟨w7.heap.size, 0, none⟩ 1 1 [.slice a q c, .int .i64 2, .int .i64 bl, .int .i64 ind] (by rfl) (by rfl) (World.news_of_block (cs := #[.slice a q c, .int .i64 2, .int .i64 bl, .int .i64 ind]) (t := 84) (fr := (0, 0)) (heap_alloc_new w7 _)) (by simp [Value.oneCell']) (by omega) (by unfold maxLen; omega) (by omega) (by have := H7.out.base; simp; omega) (w7.heap.size + 1) (by simp) ?_
      intro gb capb w9 hown9 hgrow9 hat9 hlt9
      have h9 := H7.out.farFod hAl hgrow9
      have h9h : w9.heap[hb]? = some (.cells #[.slice a q c, .int .i64 2, .int .i64 bl, .int .i64 ind] 84 (0, 0)) := by
        rw [hgrow9.block hb (by have := hAl.size; omega) (fun e => hne8 e.symm), hAl.block hb hhW]
        exact hk7
      refine hK _ _ ⟨h9, h9h⟩ ?_
      clear hK K
      have h10 := (H7.out.old hAl).newFod hown9 hgrow9 (hat9.imp id (fun e => by simpa using e)) (H7.out.tyMore _ _ _ _)
      obtain ⟨_, _, _, _, y5, _, _, _, _, _, _, _, yf⟩ := cells_at h9
      have y5f := yf 5
      have H10 := Lib.hid h10
      have HB10 : Below B w (w9.setCell ⟨b, 5, none⟩ (.slice (some ⟨gb, 0, none⟩) ((m + 1) + 1) capb)) := by
        refine Below.setCell ?_ hB _
        exact ((HB7).trans (hAl.mono H7.out.base)).grown hgrow9 (by have := (H7.out.old hAl).base; exact this) (fun k hk => (H7.out.fod.lt k hk).1)
      clear h10 h9 hown9 yf
      refine wpMid_nil ?_
      go_wp2_with fail
      go_end0
      exact ⟨rfl, ⟨_, by omega, H10.out.i⟩, HB10⟩
    · go_wp2_with fail
      clear e1 e3 d5
      refine wp_region_held_tail 5 7 (fun w' => w'.heap[b]? = some (.cells (lexCells t src tv (.slice fa m fc) ts l1 l2 fr p ln ls) 69 (0, 0)) ∧ w'.heap[hb]? = some (.cells #[.slice a q c, .int .i64 2, .int .i64 bl, .int .i64 ind] 84 (0, 0))) (by kernel_rfl) (by kernel_rfl) (by intro c a' d' v' w' h'; cases d' <;> exact h') ⟨h3.blk, hk2⟩ ?_
      simp only [List.take_succ_cons, List.take_zero, List.drop_succ_cons, List.drop_zero]
      iterate 5
        refine wpHeld_cons ?_ (by rfl) (fun w' hSw => ?_) ?_
        rotate_left 1
        · obtain ⟨q1, q2⟩ := hSw
          obtain ⟨_, _, _, _, q5, _⟩ := cells_at q1
          have z0 : w'.cell? ⟨hb, 0, none⟩ = some (.slice a q c) := by simp [World.cell?, q2]
          have z1 : w'.cell? ⟨hb, 1, none⟩ = some (.int .i64 2) := by simp [World.cell?, q2]
          have z2 : w'.cell? ⟨hb, 2, none⟩ = some (.int .i64 bl) := by simp [World.cell?, q2]
          have z3 : w'.cell? ⟨hb, 3, none⟩ = some (.int .i64 ind) := by simp [World.cell?, q2]
          go_simp
          try with_reducible rfl
        simp only [Act.put, List.setIfInBounds_toArray, List.set_cons_zero, List.set_cons_succ]
      refine wpHeld_nil ?_
      refine wpMid_cons (fun K hK => ?_)
      go_simp
      have hAl : Below w2.heap.size w2 (w2.alloc (.cells #[.slice a q c, .int .i64 2, .int .i64 bl, .int .i64 ind] 84)).drew := ((Below.refl _ w2).alloc (Nat.le_refl _) _).drew
      have hhW : hb < w2.heap.size := (Array.getElem?_eq_some_iff.1 hk2).1
      refine hK _ _ ⟨(h3.old hAl).blk, by rw [hAl.block hb hhW]; exact hk2⟩ ?_
      clear hK K
      refine wpMid_cons (fun K hK => ?_)
      refine step_append_lies _ (by rfl) _ _ _ (by rfl) B 84 i0 _ 4 48 Tryz.underlying65 hi0 hz0 hz1 hz2 rfl (by omega) (.slice fa m fc) m ys (by rfl) (h3.old hAl).fod ⟨w2.heap.size, 0, none⟩ 1 1 [.slice a q c, .int .i64 2, .int .i64 bl, .int .i64 ind] (by rfl) (by rfl) (World.news_of_block (cs := #[.slice a q c, .int .i64 2, .int .i64 bl, .int .i64 ind]) (t := 84) (fr := (0, 0)) (heap_alloc_new w2 _)) (by simp [Value.oneCell']) (by omega) (by unfold maxLen; omega) (by omega) (by have := h3.base; simp; omega) (w2.heap.size + 1) (by simp) ?_
      intro ga capa w9 hown9 hgrow9 hat9 hlt9
      have h9 := h3.farFod hAl hgrow9
      have h9h : w9.heap[hb]? = some (.cells #[.slice a q c, .int .i64 2, .int .i64 bl, .int .i64 ind] 84 (0, 0)) := by
        rw [hgrow9.block hb (by have := hAl.size; omega) (fun e => by have := (hF.lt hb e.symm).2; omega), hAl.block hb hhW]
        exact hk2
      refine hK _ _ ⟨h9, h9h⟩ ?_
      clear hK K
      have h10 := (h3.old hAl).newFod hown9 hgrow9 (hat9.imp id (fun e => by simpa using e)) (h3.tyMore _ _ _ _)
      obtain ⟨_, _, _, _, y5, _, _, _, _, _, _, _, yf⟩ := cells_at h9
      have y5f := yf 5
      have H10 := Lib.hid h10
      have HB10 : Below B w (w9.setCell ⟨b, 5, none⟩ (.slice (some ⟨ga, 0, none⟩) (m + 1) capa)) := by
        refine Below.setCell ?_ hB _
        exact ((hbel).trans (hAl.mono h3.base)).grown hgrow9 (by have := (h3.old hAl).base; exact this) (fun k hk => (h3.fod.lt k hk).1)
      clear h10 h9 hown9 yf
      refine wpMid_nil ?_
      go_wp2_with fail
      go_end0
      exact ⟨rfl, ⟨_, by omega, H10.out.i⟩, HB10⟩

end Go.Proofs.YtjjmgnllhihoeaaGreatFmt

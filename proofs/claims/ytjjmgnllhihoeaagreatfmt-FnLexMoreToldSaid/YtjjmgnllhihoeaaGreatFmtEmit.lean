/- What the lexer's methods that put a token or a piece of fodder come to. -/
import Derived.Test.YtjjmgnllhihoeaaGreatFmtBase
import Derived.Test.YtjjmgnllhihoeaaGreatFmtHeld
set_option linter.unusedSimpArgs false
set_option linter.unusedVariables false
namespace Go.Proofs.YtjjmgnllhihoeaaGreatFmt
open Go.RowKit
attribute [local go_sem ↓] Go.wp_at_zero Go.wp_at_succ

section
variable {B b : Nat} {t : ByteArray} {src : Option Addr} {tv fv : Value} {ts : Nat} {l1 l2 : Int} {fr : Bool} {p : Nat} {ln ls : Int} {n m : Nat} {xs ys : List Value} {w w1 : World}

/-- An append to the tokens, stored back. -/
theorem LexB.newTok (h : LexB B b t src tv fv ts l1 l2 fr p ln ls n m xs ys w) {g n' cap : Nat} {xs' : List Value} (hown : w1.ownsRow B 100 11 (.slice (some ⟨g, 0, none⟩) n' cap) n' xs') (hg : w.grownBy w1 tv.ownBlock) (hat : tv.ownBlock = some g ∨ g = w.heap.size) :
    LexB B b t src (.slice (some ⟨g, 0, none⟩) n' cap) fv ts l1 l2 fr p ln ls n' m xs' ys (w1.setCell ⟨b, 4, none⟩ (.slice (some ⟨g, 0, none⟩) n' cap)) := by
  have hlt := h.lt
  have hgb : g ≠ b := by
    rcases hat with h1 | h1
    · intro e; subst e; exact h.ntv h1
    · omega
  have hfl : ∀ k, fv.ownBlock = some k → k < w.heap.size := fun k hk => (h.fod.lt k hk).2
  have hgs := Lib.grownBy_setCell w1 b 4 (.slice (some ⟨g, 0, none⟩) n' cap)
  have hbk : w1.heap[b]? = some (.cells (lexCells t src tv fv ts l1 l2 fr p ln ls) 69 (0, 0)) := by
    rw [hg.block b hlt (fun e => h.ntv e.symm)]; exact h.blk
  have hfv : fv.ownBlock = none ∨ fv.ownBlock ≠ tv.ownBlock := by
    rcases h.nvv with h1 | h1
    · rw [h1]; cases hf : fv.ownBlock <;> simp
    · exact .inr (Ne.symm h1)
  have hbel : Below B w w1 := (Below.refl B w).grown hg h.base (fun k hk => (h.tok.lt k hk).1)
  refine ⟨Lib.heap_setCell_same hbk _, hown.kept hgs (.inr (by simp [Value.ownBlock]; exact hgb)), (h.fod.kept hg hfv).kept hgs (.inr h.nfv), by simp [Value.ownBlock]; exact hgb, h.nfv, .inr ?_, h.hB, h.two, ?_, h.b1, h.b2, h.b3, h.ty⟩
  · intro e
    have e' : fv.ownBlock = some g := by rw [← e]; rfl
    rcases hat with h1 | h1
    · rcases h.nvv with h2 | h2
      · rw [h1] at h2; cases h2
      · exact h2 (by rw [h1, e'])
    · have := hfl g e'; omega
  · exact tabs_below h.tabs h.two (hbel.trans ((Below.refl B w1).setCell h.hB _))

/-- An append to the fodder, stored back. -/
theorem LexB.newFod (h : LexB B b t src tv fv ts l1 l2 fr p ln ls n m xs ys w) {g m' cap : Nat} {ys' : List Value} (hown : w1.ownsRow B 84 4 (.slice (some ⟨g, 0, none⟩) m' cap) m' ys') (hg : w.grownBy w1 fv.ownBlock) (hat : fv.ownBlock = some g ∨ g = w.heap.size) (hty : ∀ j, j < m' → ∃ k : Int, ys'[4 * j + 1]? = some (.int .i64 k)) :
    LexB B b t src tv (.slice (some ⟨g, 0, none⟩) m' cap) ts l1 l2 fr p ln ls n m' xs ys' (w1.setCell ⟨b, 5, none⟩ (.slice (some ⟨g, 0, none⟩) m' cap)) := by
  have hlt := h.lt
  have hgb : g ≠ b := by
    rcases hat with h1 | h1
    · intro e; subst e; exact h.nfv h1
    · omega
  have htl : ∀ k, tv.ownBlock = some k → k < w.heap.size := fun k hk => (h.tok.lt k hk).2
  have hgs := Lib.grownBy_setCell w1 b 5 (.slice (some ⟨g, 0, none⟩) m' cap)
  have hbk : w1.heap[b]? = some (.cells (lexCells t src tv fv ts l1 l2 fr p ln ls) 69 (0, 0)) := by
    rw [hg.block b hlt (fun e => h.nfv e.symm)]; exact h.blk
  have hbel : Below B w w1 := (Below.refl B w).grown hg h.base (fun k hk => (h.fod.lt k hk).1)
  refine ⟨Lib.heap_setCell_same hbk _, (h.tok.kept hg h.nvv).kept hgs (.inr h.ntv), hown.kept hgs (.inr (by simp [Value.ownBlock]; exact hgb)), h.ntv, by simp [Value.ownBlock]; exact hgb, ?_, h.hB, h.two, ?_, h.b1, h.b2, h.b3, hty⟩
  · cases htv : tv.ownBlock with
    | none => exact .inl rfl
    | some k =>
      right
      intro e
      have e' : k = g := by simpa [Value.ownBlock] using e
      subst e'
      rcases hat with h1 | h1
      · rcases h.nvv with h2 | h2
        · rw [htv] at h2; cases h2
        · exact h2 (by rw [htv, h1])
      · have := htl k htv; omega
  · exact tabs_below h.tabs h.two (hbel.trans ((Below.refl B w1).setCell h.hB _))

/-- The fodder made empty anew. -/
theorem LexB.noFod (h : LexB B b t src tv fv ts l1 l2 fr p ln ls n m xs ys w) {g : Nat} (hgw : g = w.heap.size) :
    LexB B b t src tv (.slice (some ⟨g, 0, none⟩) 0 0) ts l1 l2 fr p ln ls n 0 xs [] ((w.alloc (.cells #[] 84)).setCell ⟨b, 5, none⟩ (.slice (some ⟨g, 0, none⟩) 0 0)) := by
  subst hgw
  have hlt := h.lt
  have h1 := h.old ((Below.refl _ w).alloc (Nat.le_refl _) (.cells #[] 84))
  have hgs := Lib.grownBy_setCell (w.alloc (.cells #[] 84)) b 5 (.slice (some ⟨w.heap.size, 0, none⟩) 0 0)
  have hne : w.heap.size ≠ b := by omega
  have hmade := World.ownsRow_made (base := B) (e := 84) (size := 4) w #[] 0 h.base (Nat.zero_le _) rfl
  refine ⟨Lib.heap_setCell_same h1.blk _, h1.tok.kept hgs (.inr h.ntv), hmade.kept hgs (.inr (by simp [Value.ownBlock]; exact hne)), h.ntv, by simp [Value.ownBlock]; exact hne, ?_, h.hB, h.two, ?_, h.b1, h.b2, h.b3, fun j hj => absurd hj (Nat.not_lt_zero j)⟩
  · cases htv : tv.ownBlock with
    | none => exact .inl rfl
    | some k =>
      right
      intro e
      have e' : k = w.heap.size := by simpa [Value.ownBlock] using e
      have := (h.tok.lt k htv).2
      omega
  · exact tabs_below h.tabs h.two (((Below.refl B w).alloc h.base _).setCell h.hB _)

/-- One piece of fodder more: all still have a kind. -/
theorem LexB.tyMore (h : LexB B b t src tv fv ts l1 l2 fr p ln ls n m xs ys w) (v0 v2 v3 : Value) (k : Int) :
    ∀ j, j < m + 1 → ∃ k' : Int, (ys ++ [v0, .int .i64 k, v2, v3])[4 * j + 1]? = some (.int .i64 k') := by
  intro j hj
  have hl := h.fod.1
  by_cases hjm : j < m
  · obtain ⟨k', hk⟩ := h.ty j hjm
    exact ⟨k', by rw [List.getElem?_append_left (by omega)]; exact hk⟩
  · have : j = m := by omega
    subst this
    refine ⟨k, ?_⟩
    rw [List.getElem?_append_right (by omega), show 4 * j + 1 - ys.length = 1 by omega]
    rfl

theorem cells_at (hb : w.heap[b]? = some (.cells (lexCells t src tv fv ts l1 l2 fr p ln ls) 69 (0, 0))) :
    w.cell? ⟨b, 1, none⟩ = some (.string ⟨#[]⟩) ∧ w.cell? ⟨b, 2, none⟩ = some (.string t) ∧ w.cell? ⟨b, 3, none⟩ = some (.pointer src) ∧ w.cell? ⟨b, 4, none⟩ = some tv ∧ w.cell? ⟨b, 5, none⟩ = some fv ∧ w.cell? ⟨b, 6, none⟩ = some (.int .i64 ts) ∧
    w.cell? ⟨b, 7, none⟩ = some (.int .i64 l1) ∧ w.cell? ⟨b, 8, none⟩ = some (.int .i64 l2) ∧ w.cell? ⟨b, 9, none⟩ = some (.bool fr) ∧ w.cell? ⟨b, 10, none⟩ = some (.int .i64 p) ∧ w.cell? ⟨b, 11, none⟩ = some (.int .i64 ln) ∧ w.cell? ⟨b, 12, none⟩ = some (.int .i64 ls) ∧
    ∀ j, w.frozen? ⟨b, j, none⟩ = false := by
  unfold lexCells at hb
  refine ⟨?_, ?_, ?_, ?_, ?_, ?_, ?_, ?_, ?_, ?_, ?_, ?_, fun j => ?_⟩ <;> simp [World.cell?, World.frozen?, hb]

/-- The lexer's own block behind new blocks and an append to its tokens. -/
theorem LexB.farTok (h : LexB B b t src tv fv ts l1 l2 fr p ln ls n m xs ys w) {W : World} (hW : Below w.heap.size w W) (hg : W.grownBy w1 tv.ownBlock) : w1.heap[b]? = some (.cells (lexCells t src tv fv ts l1 l2 fr p ln ls) 69 (0, 0)) := by
  have h2 := h.old hW
  rw [hg.block b h2.lt (fun e => h.ntv e.symm)]
  exact h2.blk
theorem LexB.farFod (h : LexB B b t src tv fv ts l1 l2 fr p ln ls n m xs ys w) {W : World} (hW : Below w.heap.size w W) (hg : W.grownBy w1 fv.ownBlock) : w1.heap[b]? = some (.cells (lexCells t src tv fv ts l1 l2 fr p ln ls) 69 (0, 0)) := by
  have h2 := h.old hW
  rw [hg.block b h2.lt (fun e => h.nfv e.symm)]
  exact h2.blk

theorem LexB.forms (h : LexB B b t src tv fv ts l1 l2 fr p ln ls n m xs ys w) : (∃ a c, tv = .slice a n c) ∧ ∃ a c, fv = .slice a m c := by
  constructor
  · rcases h.tok.2 with ⟨hv, hn⟩ | ⟨g, cap, cur, hv, _⟩
    · exact ⟨none, 0, by rw [hv, hn]⟩
    · exact ⟨_, _, hv⟩
  · rcases h.fod.2 with ⟨hv, hn⟩ | ⟨g, cap, cur, hv, _⟩
    · exact ⟨none, 0, by rw [hv, hn]⟩
    · exact ⟨_, _, hv⟩

theorem LexB.fvOne (h : LexB B b t src tv fv ts l1 l2 fr p ln ls n m xs ys w) : fv.oneCell' = true := by
  rcases h.fod.2 with ⟨hv, _⟩ | ⟨g, cap, cur, hv, _⟩ <;> rw [hv] <;> rfl
end

/-- Some location. -/
def LocP (w : World) (e : Ending) (w' : World) : Prop := ∃ x y : Int, e = .returned (.agg #[.int .i64 x, .int .i64 y]) ∧ Below w.heap.size w w'
/-- Some range of locations. -/
def RangeP (w : World) (e : Ending) (w' : World) : Prop := ∃ (s : Option Addr) (f : ByteArray) (x1 x2 x3 x4 : Int), e = .returned (.agg #[.pointer s, .string f, .int .i64 x1, .int .i64 x2, .int .i64 x3, .int .i64 x4]) ∧ Below w.heap.size w w'

set_option maxHeartbeats 1000000 in
theorem locPos_any (a c d : Int) (w : World) : Calls Tryz.prog 53 #[.agg #[.int .i64 a, .int .i64 c, .int .i64 d]] w (LocP w) := by
  go_enter Tryz.func53, Tryz.ntmps53
  go_wp2
  refine bodyPost_ret (v := .agg #[_, _]) (by simp [results, Tryz.results53, go_sem]; exact ⟨rfl, rfl⟩) rfl ?_
  exact ⟨_, _, rfl, by repeat (first | exact Below.refl _ _ | refine Below.drew ?_ | refine Below.alloc ?_ (by first | (simp; done) | (simp; omega)) _)⟩

/-- A block laid ahead of a call stands behind it. -/
theorem blk_new {w w1 : World} {cs : Array Value} {T : TypeId} (hb : Below (w.alloc (.cells cs T)).heap.size (w.alloc (.cells cs T)) w1) : w1.heap[w.heap.size]? = some (.cells cs T (0, 0)) := by
  rw [hb.block w.heap.size (by simp)]
  exact heap_alloc_new w _

set_option maxHeartbeats 1000000 in
theorem location_any (B b : Nat) (t : ByteArray) (p ts n m : Nat) (w : World) (h : LexI B b t p ts n m w) : Calls Tryz.prog 32 #[.pointer (some ⟨b, 0, none⟩)] w (LocP w) := by
  obtain ⟨src, tv, fv, l1, l2, ln, ls, fr, xs, ys, h⟩ := h
  have hlt := h.lt
  obtain ⟨_, _, _, _, _, _, _, _, _, d10, d11, d12, _⟩ := h.cells
  clear h
  go_enter Tryz.func32, Tryz.ntmps32
  go_wp2_with fail
  refine (locPos_any _ _ _ _).mono ?_
  rintro e w1 ⟨x, y, rfl, hb⟩
  have hk := blk_new hb
  have e0 : w1.cell? ⟨w.heap.size, 0, none⟩ = some (.int .i64 0) := by simp [World.cell?, hk]
  have e1 : w1.cell? ⟨w.heap.size, 1, none⟩ = some (.int .i64 0) := by simp [World.cell?, hk]
  have f0 : ∀ j, w1.frozen? ⟨w.heap.size, j, none⟩ = false := fun j => by simp [World.frozen?, hk]
  have hb1 : Below w.heap.size w w1 := ((Below.refl _ w).alloc (Nat.le_refl _) _).trans (hb.mono (by simp))
  clear hk d10 d11 d12
  go_wp2_with fail
  refine bodyPost_ret (v := .agg #[.int .i64 x, .int .i64 y]) (by simp [results, Tryz.results32, go_sem, e0, e1]) rfl ?_
  exact ⟨_, _, rfl, (hb1.setCell (Nat.le_refl _) _).setCell (Nat.le_refl _) _⟩

set_option maxHeartbeats 1000000 in
theorem mkRange_any (f : ByteArray) (s : Option Addr) (x1 x2 x3 x4 : Int) (w : World) : Calls Tryz.prog 55 #[.string f, .pointer s, .agg #[.int .i64 x1, .int .i64 x2], .agg #[.int .i64 x3, .int .i64 x4]] w (RangeP w) := by
  go_enter Tryz.func55, Tryz.ntmps55
  go_wp2
  refine bodyPost_ret (v := .agg #[_, _, _, _, _, _]) (by simp [results, Tryz.results55, go_sem]; exact ⟨rfl, rfl, rfl, rfl, rfl, rfl⟩) rfl ?_
  exact ⟨_, _, _, _, _, _, rfl, by repeat (first | exact Below.refl _ _ | refine Below.drew ?_ | refine Below.alloc ?_ (by first | (simp; done) | (simp; omega)) _)⟩

/-- The lexer's token begins at the place. -/
def ResetP (B b : Nat) (t : ByteArray) (p n m : Nat) (w : World) (e : Ending) (w' : World) : Prop := e = .returned (.tuple #[]) ∧ LexI B b t p p n m w' ∧ w.grownBy w' (some b)

set_option maxHeartbeats 1000000 in
theorem reset_any (B b : Nat) (t : ByteArray) (p ts n m : Nat) (w : World) (h : LexI B b t p ts n m w) : Calls Tryz.prog 28 #[.pointer (some ⟨b, 0, none⟩)] w (ResetP B b t p n m w) := by
  obtain ⟨src, tv, fv, l1, l2, ln, ls, fr, xs, ys, h⟩ := h
  have hlt := h.lt
  have H0 := Lib.hid h
  obtain ⟨_, _, _, _, _, d6, _, _, _, d10, _, _, fz⟩ := h.cells
  clear h
  go_enter Tryz.func28, Tryz.ntmps28
  go_wp2_with fail
  have h1 := (H0.out.putTs p (Nat.le_refl _))
  refine (location_any B b t p p n m _ h1.i).mono ?_
  rintro e w1 ⟨x, y, rfl, hb⟩
  have h2 := h1.old hb
  have H2 := Lib.hid h2
  obtain ⟨_, _, _, _, _, _, d7, d8, _, _, _, _, fz2⟩ := h2.cells
  have hg : w.grownBy w1 (some b) := Lib.grownBy_below (Lib.grownBy_setCell w b 6 _) hb
  clear h1 h2 d6 d10 fz
  go_wp2_with fail
  go_end0
  exact ⟨rfl, ((H2.out.putL1 x).putL2 y).i, Lib.grownBy_setB (Lib.grownBy_setB hg _ _) _ _⟩

theorem Tryz.info100 : (Tryz.prog.info? 100).map (fun i => (i.zero, i.size, i.bytes)) = some (some (.agg #[.slice none 0 0, .string ⟨#[]⟩, .string ⟨#[]⟩, .string ⟨#[]⟩, .pointer none, .string ⟨#[]⟩, .int .i64 0, .int .i64 0, .int .i64 0, .int .i64 0, .int .i64 0]), 11, 136) := by kernel_rfl
theorem Tryz.info84 : (Tryz.prog.info? 84).map (fun i => (i.zero, i.size, i.bytes)) = some (some (.agg #[.slice none 0 0, .int .i64 0, .int .i64 0, .int .i64 0]), 4, 48) := by kernel_rfl

/-- One token more, the fodder empty. -/
def EmitP (B b : Nat) (t : ByteArray) (p ts n : Nat) (w : World) (e : Ending) (w' : World) : Prop := e = .returned (.tuple #[]) ∧ LexI B b t p ts (n + 1) 0 w' ∧ Below B w w'

set_option maxRecDepth 100000 in
set_option maxHeartbeats 6400000 in
theorem emitFull_any (B b : Nat) (t : ByteArray) (p ts n m : Nat) (w : World) (h : LexI B b t p ts n m w) (hn : n ≤ 200000) (k : Int) (s1 s2 s3 : ByteArray) :
    Calls Tryz.prog 34 #[.pointer (some ⟨b, 0, none⟩), .int .i64 k, .string s1, .string s2, .string s3] w (EmitP B b t p ts n w) := by
  obtain ⟨src, tv, fv, l1, l2, ln, ls, fr, xs, ys, h⟩ := h
  obtain ⟨i0, hi0, hz0, hz1, hz2⟩ := info_parts Tryz.info100
  have hlt := h.lt
  have hbase := h.base
  obtain ⟨⟨ta, tc, rfl⟩, fa, fc, rfl⟩ := h.forms
  have HN := Lib.hid h.ntv
  have H0 := Lib.hid h
  obtain ⟨d1, _, d3, d4, d5, _, d7, d8, _, _, _, _, fz⟩ := h.cells
  clear h
  go_enter Tryz.func34, Tryz.ntmps34
  go_wp2_with fail
  refine wp_region_held_tail 26 31 (fun w' => w'.cell? ⟨b, 1, none⟩ = some (.string ⟨#[]⟩) ∧ w'.cell? ⟨b, 3, none⟩ = some (.pointer src) ∧ w'.cell? ⟨b, 4, none⟩ = some (.slice ta n tc) ∧ w'.cell? ⟨b, 5, none⟩ = some (.slice fa m fc) ∧ w'.cell? ⟨b, 7, none⟩ = some (.int .i64 l1) ∧ w'.cell? ⟨b, 8, none⟩ = some (.int .i64 l2)) (by kernel_rfl) (by kernel_rfl) (by intro c a' d' v' w' h'; cases d' <;> exact h') ⟨d1, d3, d4, d5, d7, d8⟩ ?_
  simp only [List.take_succ_cons, List.take_zero, List.drop_succ_cons, List.drop_zero]
  iterate 26
    refine wpHeld_cons ?_ (by rfl) (fun w' hSw => ?_) ?_
    rotate_left 1
    · obtain ⟨q1, q3, q4, q5, q7, q8⟩ := hSw
      go_simp
      try with_reducible rfl
    simp only [Act.put, List.setIfInBounds_toArray, List.set_cons_zero, List.set_cons_succ]
  refine wpHeld_nil ?_
  refine wpMid_cons (fun K hK => ?_)
  go_simp
  refine (location_any B b t p ts n m _ ?_).mono ?_
  · exact LexI.old H0.out.i ⟨rfl, rfl, rfl, Nat.le_refl _, fun _ _ => rfl⟩
  rintro e w1 ⟨x, y, rfl, hb1⟩
  have h1 := H0.out.old (w' := w1) ⟨hb1.os, hb1.tape, hb1.output, hb1.size, hb1.block⟩
  refine hK _ _ (by obtain ⟨q1, _, q3, q4, q5, _, q7, q8, _⟩ := h1.cells; exact ⟨q1, q3, q4, q5, q7, q8⟩) ?_
  clear hK K
  refine wpMid_cons (fun K hK => ?_)
  go_simp
  refine (mkRange_any _ _ _ _ _ _ _).mono ?_
  rintro e w2 ⟨s, f, x1, x2, x3, x4, rfl, hb2⟩
  have h2 := h1.old (w' := w2) ⟨hb2.os, hb2.tape, hb2.output, hb2.size, hb2.block⟩
  refine hK _ _ (by obtain ⟨q1, _, q3, q4, q5, _, q7, q8, _⟩ := h2.cells; exact ⟨q1, q3, q4, q5, q7, q8⟩) ?_
  clear hK K
  refine wpMid_cons (fun K hK => ?_)
  go_simp
  refine hK _ _ (by obtain ⟨q1, _, q3, q4, q5, _, q7, q8, _⟩ := h2.cells; exact ⟨q1, q3, q4, q5, q7, q8⟩) ?_
  clear hK K
  refine wpMid_cons (fun K hK => ?_)
  go_simp
  refine hK _ _ (by obtain ⟨q1, _, q3, q4, q5, _, q7, q8, _⟩ := (h2.old ((Below.refl _ w2).alloc (Nat.le_refl _) _)).cells; exact ⟨q1, q3, q4, q5, q7, q8⟩) ?_
  clear hK K
  refine wpMid_cons (fun K hK => ?_)
  refine step_append_lies _ (by rfl) _ _ _ (by rfl) B 100 i0 _ 11 136 Tryz.underlying33 hi0 hz0 hz1 hz2 rfl (by omega) (.slice ta n tc) n xs (by rfl) (h2.tok.alloc _) ⟨w2.heap.size, 0, none⟩ 1 1 [.slice fa m fc, .string s1, .string s2, .string s3, .pointer s, .string f, .int .i64 x1, .int .i64 x2, .int .i64 x3, .int .i64 x4, .int .i64 k] (by rfl) (by rfl) (World.news_of_block (cs := #[.slice fa m fc, .string s1, .string s2, .string s3, .pointer s, .string f, .int .i64 x1, .int .i64 x2, .int .i64 x3, .int .i64 x4, .int .i64 k]) (t := 100) (fr := (0, 0)) (heap_alloc_new w2 _)) (by simp [Value.oneCell']) (by omega) (by unfold maxLen; omega) (by omega) (by have := h2.base; simp; omega) (w2.heap.size + 1) (by simp) ?_
  intro g cap w3 hown3 hgrow hat hlt3
  have h3 := h2.farTok (by repeat (first | exact Below.refl _ _ | refine Below.drew ?_ | refine Below.alloc ?_ (Nat.le_refl _) _)) hgrow
  obtain ⟨z1, _, z3, z4, z5, _, z7, z8, _, _, _, _, zf⟩ := cells_at h3
  have h4 := (h2.old ((Below.refl _ w2).alloc (Nat.le_refl _) _)).newTok hown3 hgrow (hat.imp id (fun e => by simpa using e))
  have h5 := h4.old ((Below.refl _ _).alloc (Nat.le_refl _) (.cells #[] 84))
  obtain ⟨_, _, _, _, y5, _, _, _, _, _, _, _, yf⟩ := h5.cells
  have y5f := yf 5
  have H4 := Lib.hid h4
  have HB : Below B w (w3.setCell ⟨b, 4, none⟩ (.slice (some ⟨g, 0, none⟩) (n + 1) cap)) := by
    refine Below.setCell ?_ H0.out.hB _
    have e1 : Below B w w1 := (⟨hb1.os, hb1.tape, hb1.output, hb1.size, hb1.block⟩ : Below w.heap.size w w1).mono H0.out.base
    have e2 : Below B w w2 := e1.trans ((⟨hb2.os, hb2.tape, hb2.output, hb2.size, hb2.block⟩ : Below w1.heap.size w1 w2).mono h1.base)
    exact (e2.alloc h2.base _).grown hgrow (by have := h2.base; simp; omega) (fun k hk => (H0.out.tok.lt k hk).1)
  have zf4 := zf 4
  clear h1 h2 h4 h5 h3 hown3 zf yf d1 d3 d4 d5 d7 d8 fz
  refine hK _ _ ⟨z1, z3, z4, z5, z7, z8⟩ ?_
  clear hK K z1 z3 z5 z7 z8
  refine wpMid_nil ?_
  go_wp2_with fail
  go_end0
  exact ⟨rfl, (H4.out.noFod (by simp)).i, (HB.alloc (by have := H4.out.base; exact this) _).setCell H4.out.hB _⟩
end Go.Proofs.YtjjmgnllhihoeaaGreatFmt

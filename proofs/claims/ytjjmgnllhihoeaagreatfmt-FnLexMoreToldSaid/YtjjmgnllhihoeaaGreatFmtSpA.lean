/- The state of the reference's lexer in memory, and what stays of it behind writes; its small methods. -/
import Derived.Test.YtjjmgnllhihoeaaGreatFmtRunes
import Derived.Test.YtjjmgnllhihoeaaGreatFmtChain
import Derived.Test.YtjjmgnllhihoeaaGreatFmtHeld
import Derived.WalkKit
import Derived.WalkSpells
import Derived.WalkLawsBesides
import Derived.Lib.Hide
import Derived.Lib.BufferOwn
import Derived.Deep.QuietTactic
import Derived.BigQuiet
import Derived.Deep.RegionHeld3
import Derived.Deep.DrawnRows
import Derived.Deep.AppendLies
import Derived.Deep.LoopGhost
set_option linter.unusedSimpArgs false
set_option linter.unusedVariables false
namespace Go.Proofs.YtjjmgnllhihoeaaGreatFmt
open Go.RowKit
attribute [local go_sem ↓] Go.wp_at_zero Go.wp_at_succ

/-- The reference's lexer's cells. -/
def spCells (s : ByteArray) (p st : Int) (tv cv : Value) (wd co : Bool) : Array Value :=
  #[.string s, .int .i64 p, .int .i64 st, tv, cv, .bool wd, .bool co]

/-- The reference's lexer in block b: the text s, the place p, the state st, n tokens, m comments. -/
structure SpB (B b : Nat) (s : ByteArray) (p : Nat) (st : Int) (tv cv : Value) (wd co : Bool) (n m : Nat) (xs ys : List Value) (w : World) : Prop where
  blk : w.heap[b]? = some (.cells (spCells s p st tv cv wd co) 27 (0, 0))
  tok : w.ownsRow B 76 3 tv n xs
  com : w.ownsRow B 9 1 cv m ys
  ntv : tv.ownBlock ≠ some b
  ncv : cv.ownBlock ≠ some b
  nvv : tv.ownBlock = none ∨ tv.ownBlock ≠ cv.ownBlock
  hB : B ≤ b
  b2 : p ≤ s.size
  b3 : s.size ≤ 100000

def SpI (B b : Nat) (s : ByteArray) (p : Nat) (st : Int) (wd : Bool) (n m : Nat) (w : World) : Prop :=
  ∃ (tv cv : Value) (co : Bool) (xs ys : List Value), SpB B b s p st tv cv wd co n m xs ys w

section
variable {B b : Nat} {s : ByteArray} {p : Nat} {st : Int} {tv cv : Value} {wd co : Bool} {n m : Nat} {xs ys : List Value} {w w' w1 : World}

theorem SpB.lt (h : SpB B b s p st tv cv wd co n m xs ys w) : b < w.heap.size := (Array.getElem?_eq_some_iff.1 h.blk).1
theorem SpB.base (h : SpB B b s p st tv cv wd co n m xs ys w) : B ≤ w.heap.size := Nat.le_of_lt (Nat.lt_of_le_of_lt h.hB h.lt)
theorem SpB.i (h : SpB B b s p st tv cv wd co n m xs ys w) : SpI B b s p st wd n m w := ⟨_, _, _, _, _, h⟩

theorem SpB.old (h : SpB B b s p st tv cv wd co n m xs ys w) (hb : Below w.heap.size w w') : SpB B b s p st tv cv wd co n m xs ys w' := by
  have hk : ∀ (k : Nat) (o : Obj), w.heap[k]? = some o → w'.heap[k]? = some o := fun k o hk => by
    rw [hb.block k (Array.getElem?_eq_some_iff.1 hk).1]; exact hk
  refine ⟨hk b _ h.blk, ⟨h.tok.1, ?_⟩, ⟨h.com.1, ?_⟩, h.ntv, h.ncv, h.nvv, h.hB, h.b2, h.b3⟩
  · rcases h.tok.2 with hn | ⟨g, cap, cur, hv, hg1, hg2, rest⟩
    · exact .inl hn
    · exact .inr ⟨g, cap, cur, hv, hg1, hk g _ hg2, rest⟩
  · rcases h.com.2 with hn | ⟨g, cap, cur, hv, hg1, hg2, rest⟩
    · exact .inl hn
    · exact .inr ⟨g, cap, cur, hv, hg1, hk g _ hg2, rest⟩

/-- A store into one of its own cells that are no slices. -/
theorem SpB.put (h : SpB B b s p st tv cv wd co n m xs ys w) (i : Nat) {x : Value} {p' : Nat} {st' : Int} {wd' co' : Bool}
    (hc : (spCells s p st tv cv wd co).setIfInBounds i x = spCells s p' st' tv cv wd' co') (hp : p' ≤ s.size) :
    SpB B b s p' st' tv cv wd' co' n m xs ys (w.setCell ⟨b, i, none⟩ x) := by
  have hg := Lib.grownBy_setCell w b i x
  exact ⟨by rw [← hc]; exact Lib.heap_setCell_same h.blk x, h.tok.kept hg (.inr h.ntv), h.com.kept hg (.inr h.ncv), h.ntv, h.ncv, h.nvv, h.hB, hp, h.b3⟩
theorem SpB.putP (h : SpB B b s p st tv cv wd co n m xs ys w) (p' : Nat) (hp : p' ≤ s.size) : SpB B b s p' st tv cv wd co n m xs ys (w.setCell ⟨b, 1, none⟩ (.int .i64 p')) := h.put 1 rfl hp
theorem SpB.putSt (h : SpB B b s p st tv cv wd co n m xs ys w) (x : Int) : SpB B b s p x tv cv wd co n m xs ys (w.setCell ⟨b, 2, none⟩ (.int .i64 x)) := h.put 2 rfl h.b2
theorem SpB.putWd (h : SpB B b s p st tv cv wd co n m xs ys w) (x : Bool) : SpB B b s p st tv cv x co n m xs ys (w.setCell ⟨b, 5, none⟩ (.bool x)) := h.put 5 rfl h.b2
theorem SpB.putCo (h : SpB B b s p st tv cv wd co n m xs ys w) (x : Bool) : SpB B b s p st tv cv wd x n m xs ys (w.setCell ⟨b, 6, none⟩ (.bool x)) := h.put 6 rfl h.b2

theorem spCells_at (hb : w.heap[b]? = some (.cells (spCells s p st tv cv wd co) 27 (0, 0))) :
    w.cell? ⟨b, 0, none⟩ = some (.string s) ∧ w.cell? ⟨b, 1, none⟩ = some (.int .i64 p) ∧ w.cell? ⟨b, 2, none⟩ = some (.int .i64 st) ∧ w.cell? ⟨b, 3, none⟩ = some tv ∧ w.cell? ⟨b, 4, none⟩ = some cv ∧
    w.cell? ⟨b, 5, none⟩ = some (.bool wd) ∧ w.cell? ⟨b, 6, none⟩ = some (.bool co) ∧ ∀ j, w.frozen? ⟨b, j, none⟩ = false := by
  unfold spCells at hb
  refine ⟨?_, ?_, ?_, ?_, ?_, ?_, ?_, fun j => ?_⟩ <;> simp [World.cell?, World.frozen?, hb]

theorem SpB.forms (h : SpB B b s p st tv cv wd co n m xs ys w) : (∃ a c, tv = .slice a n c) ∧ ∃ a c, cv = .slice a m c := by
  constructor
  · rcases h.tok.2 with ⟨hv, hn⟩ | ⟨g, cap, cur, hv, _⟩
    · exact ⟨none, 0, by rw [hv, hn]⟩
    · exact ⟨_, _, hv⟩
  · rcases h.com.2 with ⟨hv, hn⟩ | ⟨g, cap, cur, hv, _⟩
    · exact ⟨none, 0, by rw [hv, hn]⟩
    · exact ⟨_, _, hv⟩

/-- An append to the tokens, stored back. -/
theorem SpB.newTok (h : SpB B b s p st tv cv wd co n m xs ys w) {g n' cap : Nat} {xs' : List Value} (hown : w1.ownsRow B 76 3 (.slice (some ⟨g, 0, none⟩) n' cap) n' xs') (hg : w.grownBy w1 tv.ownBlock) (hat : tv.ownBlock = some g ∨ g = w.heap.size) :
    SpB B b s p st (.slice (some ⟨g, 0, none⟩) n' cap) cv wd co n' m xs' ys (w1.setCell ⟨b, 3, none⟩ (.slice (some ⟨g, 0, none⟩) n' cap)) := by
  have hlt := h.lt
  have hgb : g ≠ b := by
    rcases hat with h1 | h1
    · intro e; subst e; exact h.ntv h1
    · omega
  have hfl : ∀ k, cv.ownBlock = some k → k < w.heap.size := fun k hk => (h.com.lt k hk).2
  have hgs := Lib.grownBy_setCell w1 b 3 (.slice (some ⟨g, 0, none⟩) n' cap)
  have hbk : w1.heap[b]? = some (.cells (spCells s p st tv cv wd co) 27 (0, 0)) := by
    rw [hg.block b hlt (fun e => h.ntv e.symm)]; exact h.blk
  have hfv : cv.ownBlock = none ∨ cv.ownBlock ≠ tv.ownBlock := by
    rcases h.nvv with h1 | h1
    · rw [h1]; cases hf : cv.ownBlock <;> simp
    · exact .inr (Ne.symm h1)
  refine ⟨Lib.heap_setCell_same hbk _, hown.kept hgs (.inr (by simp [Value.ownBlock]; exact hgb)), (h.com.kept hg hfv).kept hgs (.inr h.ncv), by simp [Value.ownBlock]; exact hgb, h.ncv, .inr ?_, h.hB, h.b2, h.b3⟩
  intro e
  have e' : cv.ownBlock = some g := by rw [← e]; rfl
  rcases hat with h1 | h1
  · rcases h.nvv with h2 | h2
    · rw [h1] at h2; cases h2
    · exact h2 (by rw [h1, e'])
  · have := hfl g e'; omega

/-- An append to the comments, stored back. -/
theorem SpB.newCom (h : SpB B b s p st tv cv wd co n m xs ys w) {g m' cap : Nat} {ys' : List Value} (hown : w1.ownsRow B 9 1 (.slice (some ⟨g, 0, none⟩) m' cap) m' ys') (hg : w.grownBy w1 cv.ownBlock) (hat : cv.ownBlock = some g ∨ g = w.heap.size) :
    SpB B b s p st tv (.slice (some ⟨g, 0, none⟩) m' cap) wd co n m' xs ys' (w1.setCell ⟨b, 4, none⟩ (.slice (some ⟨g, 0, none⟩) m' cap)) := by
  have hlt := h.lt
  have hgb : g ≠ b := by
    rcases hat with h1 | h1
    · intro e; subst e; exact h.ncv h1
    · omega
  have htl : ∀ k, tv.ownBlock = some k → k < w.heap.size := fun k hk => (h.tok.lt k hk).2
  have hgs := Lib.grownBy_setCell w1 b 4 (.slice (some ⟨g, 0, none⟩) m' cap)
  have hbk : w1.heap[b]? = some (.cells (spCells s p st tv cv wd co) 27 (0, 0)) := by
    rw [hg.block b hlt (fun e => h.ncv e.symm)]; exact h.blk
  refine ⟨Lib.heap_setCell_same hbk _, (h.tok.kept hg h.nvv).kept hgs (.inr h.ntv), hown.kept hgs (.inr (by simp [Value.ownBlock]; exact hgb)), h.ntv, by simp [Value.ownBlock]; exact hgb, ?_, h.hB, h.b2, h.b3⟩
  cases htv : tv.ownBlock with
  | none => exact .inl rfl
  | some k =>
    right
    intro e
    have e' : k = g := by simpa [Value.ownBlock] using e
    subst e'
    rcases hat with h1 | h1
    · rcases h.nvv with h2 | h2
      · rw [htv] at h2; cases h2
      · exact h2 (by rw [htv, h1])
    · have := htl k htv; omega

/-- The lexer's own block behind new blocks and an append. -/
theorem SpB.farTok (h : SpB B b s p st tv cv wd co n m xs ys w) {W : World} (hW : Below w.heap.size w W) (hg : W.grownBy w1 tv.ownBlock) : w1.heap[b]? = some (.cells (spCells s p st tv cv wd co) 27 (0, 0)) := by
  have h2 := h.old hW
  rw [hg.block b h2.lt (fun e => h.ntv e.symm)]
  exact h2.blk
theorem SpB.farCom (h : SpB B b s p st tv cv wd co n m xs ys w) {W : World} (hW : Below w.heap.size w W) (hg : W.grownBy w1 cv.ownBlock) : w1.heap[b]? = some (.cells (spCells s p st tv cv wd co) 27 (0, 0)) := by
  have h2 := h.old hW
  rw [hg.block b h2.lt (fun e => h.ncv e.symm)]
  exact h2.blk

theorem SpI.lt (h : SpI B b s p st wd n m w) : b < w.heap.size := by obtain ⟨_, _, _, _, _, h⟩ := h; exact h.lt
theorem SpI.base (h : SpI B b s p st wd n m w) : B ≤ b := by obtain ⟨_, _, _, _, _, h⟩ := h; exact h.hB
theorem SpI.baseW (h : SpI B b s p st wd n m w) : B ≤ w.heap.size := Nat.le_of_lt (Nat.lt_of_le_of_lt h.base h.lt)
theorem SpI.bounds (h : SpI B b s p st wd n m w) : p ≤ s.size ∧ s.size ≤ 100000 := by obtain ⟨_, _, _, _, _, h⟩ := h; exact ⟨h.b2, h.b3⟩
theorem SpI.old (h : SpI B b s p st wd n m w) (hb : Below w.heap.size w w') : SpI B b s p st wd n m w' := by obtain ⟨_, _, _, _, _, h⟩ := h; exact (h.old hb).i
theorem SpI.cells (h : SpI B b s p st wd n m w) : w.cell? ⟨b, 0, none⟩ = some (.string s) ∧ w.cell? ⟨b, 1, none⟩ = some (.int .i64 p) ∧ w.cell? ⟨b, 2, none⟩ = some (.int .i64 st) ∧ w.cell? ⟨b, 5, none⟩ = some (.bool wd) ∧ ∀ j, w.frozen? ⟨b, j, none⟩ = false := by
  obtain ⟨_, _, _, _, _, h⟩ := h
  obtain ⟨c0, c1, c2, _, _, c5, _, fz⟩ := spCells_at h.blk
  exact ⟨c0, c1, c2, c5, fz⟩
theorem SpI.putP (h : SpI B b s p st wd n m w) (p' : Nat) (hp : p' ≤ s.size) : SpI B b s p' st wd n m (w.setCell ⟨b, 1, none⟩ (.int .i64 p')) := by obtain ⟨_, _, _, _, _, h⟩ := h; exact (h.putP p' hp).i
theorem SpI.putSt (h : SpI B b s p st wd n m w) (x : Int) : SpI B b s p x wd n m (w.setCell ⟨b, 2, none⟩ (.int .i64 x)) := by obtain ⟨_, _, _, _, _, h⟩ := h; exact (h.putSt x).i
theorem SpI.drewN (h : SpI B b s p st wd n m w) (k : Nat) : SpI B b s p st wd n m (w.drewN k) := h.old ⟨rfl, rfl, rfl, Nat.le_refl _, fun _ _ => rfl⟩
end

theorem below_drewN {B : Nat} {w w1 : World} (h : Below B w w1) (k : Nat) : Below B w (w1.drewN k) := h.trans ⟨rfl, rfl, rfl, Nat.le_refl _, fun _ _ => rfl⟩

/-- stop. -/
def StopP (B b : Nat) (s : ByteArray) (p : Nat) (st x : Int) (wd : Bool) (n m : Nat) (w : World) (e : Ending) (w' : World) : Prop :=
  e = .returned (.tuple #[]) ∧ SpI B b s p (if st = 1 then x else st) wd n m w' ∧ Below B w w'

set_option maxHeartbeats 1000000 in
theorem stop_any (B b : Nat) (s : ByteArray) (p : Nat) (st x : Int) (wd : Bool) (n m : Nat) (w : World) (h : SpI B b s p st wd n m w) :
    Calls Tryz.prog 23 #[.pointer (some ⟨b, 0, none⟩), .int .i64 x] w (StopP B b s p st x wd n m w) := by
  obtain ⟨c0, c1, c2, c5, fz⟩ := h.cells
  have hlt := h.lt
  have hB := h.base
  have HL := Lib.hid h
  clear h c0 c1 c5
  by_cases h1 : st = 1
  · subst h1
    go_enter Tryz.func23, Tryz.ntmps23
    go_wp2
    go_end0
    exact ⟨rfl, by rw [if_pos rfl]; exact HL.out.putSt x, (Below.refl B w).setCell hB _⟩
  · have hx : ((st : Int) == 1) = false := by simp; exact h1
    have H1 := Lib.hid h1
    clear h1
    go_enter Tryz.func23, Tryz.ntmps23
    go_wp2
    go_end0
    exact ⟨rfl, by rw [if_neg H1.out]; exact HL.out, Below.refl B w⟩

theorem Tryz.info76 : (Tryz.prog.info? 76).map (fun i => (i.zero, i.size, i.bytes)) = some (some (.agg #[.int .i64 0, .string ⟨#[]⟩, .int .i64 0]), 3, 32) := by kernel_rfl
theorem Tryz.info9 : (Tryz.prog.info? 9).map (fun i => (i.zero, i.size, i.bytes)) = some (some (.string ⟨#[]⟩), 1, 16) := by kernel_rfl

/-- put. -/
def PutP (B b : Nat) (s : ByteArray) (e : Nat) (st : Int) (wd : Bool) (n m : Nat) (w : World) (en : Ending) (w' : World) : Prop :=
  en = .returned (.tuple #[]) ∧ SpI B b s e st wd (n + 1) m w' ∧ Below B w w'

set_option maxRecDepth 100000 in
set_option maxHeartbeats 6400000 in
theorem put_any (B b : Nat) (s : ByteArray) (p : Nat) (st : Int) (wd : Bool) (n m : Nat) (w : World) (h : SpI B b s p st wd n m w) (hn : n ≤ 200000) (kd : Int) (e : Nat) (h1 : p ≤ e) (h2 : e ≤ s.size) :
    Calls Tryz.prog 20 #[.pointer (some ⟨b, 0, none⟩), .int .i64 kd, .int .i64 e] w (PutP B b s e st wd n m w) := by
  obtain ⟨tv, cv, co, xs, ys, h⟩ := h
  obtain ⟨i0, hi0, hz0, hz1, hz2⟩ := info_parts Tryz.info76
  have hlt := h.lt
  have hbase := h.base
  obtain ⟨⟨ta, tc, rfl⟩, fa, fc, rfl⟩ := h.forms
  have H0 := Lib.hid h
  have hs3 := h.b3
  have hblk := h.blk
  have i1 : (0 : Int) ≤ (p : Int) := by omega
  have i2 : (p : Int) ≤ (e : Int) := by omega
  have i3 : (e : Int) ≤ (s.size : Int) := by omega
  clear h
  go_enter Tryz.func20, Tryz.ntmps20
  go_wp2_with fail
  refine wp_region_held_tail 16 19 (fun w' => w'.heap[b]? = some (.cells (spCells s p st (.slice ta n tc) (.slice fa m fc) wd co) 27 (0, 0))) (by kernel_rfl) (by kernel_rfl) (by intro c a' d' v' w' h'; cases d' <;> exact h') hblk ?_
  simp only [List.take_succ_cons, List.take_zero, List.drop_succ_cons, List.drop_zero]
  iterate 16
    refine wpHeld_cons ?_ (by rfl) (fun w' hSw => ?_) ?_
    rotate_left 1
    · obtain ⟨q0, q1, _, q3, _⟩ := spCells_at hSw
      go_simp
      try with_reducible rfl
    simp only [Act.put, List.setIfInBounds_toArray, List.set_cons_zero, List.set_cons_succ]
  refine wpHeld_nil ?_
  have hbd : Below w.heap.size w w.drew := ⟨rfl, rfl, rfl, Nat.le_refl _, fun _ _ => rfl⟩
  have h1' := H0.out.old hbd
  generalize w.drew = w1 at *
  refine wpMid_cons (fun K hK => ?_)
  go_simp
  refine hK _ _ h1'.blk ?_
  clear hK K
  refine wpMid_cons (fun K hK => ?_)
  go_simp
  refine hK _ _ (h1'.old ((Below.refl _ w1).alloc (Nat.le_refl _) _)).blk ?_
  clear hK K
  refine wpMid_cons (fun K hK => ?_)
  refine step_append_lies _ (by rfl) _ _ _ (by rfl) B 76 i0 _ 3 32 Tryz.underlying24 hi0 hz0 hz1 hz2 rfl (by omega) (.slice ta n tc) n xs (by rfl) (h1'.tok.alloc _) ⟨w1.heap.size, 0, none⟩ 1 1 [.int .i64 kd, .string (s.extract p e), .int .i64 0] (by rfl) (by rfl) (World.news_of_block (cs := #[.int .i64 kd, .string (s.extract p e), .int .i64 0]) (t := 76) (fr := (0, 0)) (heap_alloc_new w1 _)) (by simp [Value.oneCell']) (by omega) (by unfold maxLen; omega) (by omega) (by have := h1'.base; simp; omega) (w1.heap.size + 1) (by simp) ?_
  intro g cap w3 hown3 hgrow hat hlt3
  have h3 := h1'.farTok (by repeat (first | exact Below.refl _ _ | refine Below.drew ?_ | refine Below.alloc ?_ (Nat.le_refl _) _)) hgrow
  have h4 := (h1'.old ((Below.refl _ w1).alloc (Nat.le_refl _) _)).newTok hown3 hgrow (hat.imp id (fun e => by simpa using e))
  obtain ⟨z0, z1, z2, z3, z4, z5, z6, zf⟩ := spCells_at h3
  obtain ⟨y0, y1, y2, y3, y4, y5, y6, yf⟩ := spCells_at h4.blk
  have H4 := Lib.hid h4
  have HB : Below B w (w3.setCell ⟨b, 3, none⟩ (.slice (some ⟨g, 0, none⟩) (n + 1) cap)) := by
    refine Below.setCell ?_ H0.out.hB _
    exact ((hbd.mono H0.out.base).alloc h1'.base _).grown hgrow (by have := h1'.base; simp; omega) (fun k hk => (H0.out.tok.lt k hk).1)
  have zf3 := zf 3
  clear h1' h4 hown3 zf hblk z0 z1 z2 z4 z5 z6
  refine hK _ _ h3 ?_
  clear hK K
  refine wpMid_nil ?_
  go_wp2_with fail
  go_end0
  exact ⟨rfl, (H4.out.putP e h2).i, HB.setCell H4.out.hB _⟩
end Go.Proofs.YtjjmgnllhihoeaaGreatFmt

/- What the lexer's methods that put a piece of fodder come to; emitToken. -/
import Derived.Test.YtjjmgnllhihoeaaGreatFmtEmit
set_option linter.unusedSimpArgs false
set_option linter.unusedVariables false
namespace Go.Proofs.YtjjmgnllhihoeaaGreatFmt
open Go.RowKit
attribute [local go_sem ↓] Go.wp_at_zero Go.wp_at_succ

/-- A piece of fodder. -/
def FodP (k bl ind : Int) (v : Value) (w : World) (e : Ending) (w' : World) : Prop := e = .returned (.agg #[v, .int .i64 k, .int .i64 bl, .int .i64 ind]) ∧ Below w.heap.size w w'

set_option maxHeartbeats 1000000 in
theorem makeFodder_any (k bl ind : Int) (a : Option Addr) (n c : Nat) (w : World) (h : (k = 0 ∧ n ≤ 1) ∨ (k = 1 ∧ bl = 0 ∧ ind = 0 ∧ n = 1) ∨ (k = 2 ∧ 0 < n)) :
    Calls Tryz.prog 50 #[.int .i64 k, .int .i64 bl, .int .i64 ind, .slice a n c] w (FodP k bl ind (.slice a n c) w) := by
  rcases h with ⟨rfl, hn⟩ | ⟨rfl, rfl, rfl, rfl⟩ | ⟨rfl, hn⟩
  · have h1 : decide ((n : Int) > 1) = false := by simp; omega
    go_enter Tryz.func50, Tryz.ntmps50
    go_wp2_with fail
    refine bodyPost_ret (v := .agg #[.slice a n c, .int .i64 0, .int .i64 bl, .int .i64 ind]) (by simp [results, Tryz.results50, go_sem]) rfl ⟨rfl, (Below.refl _ w).alloc (Nat.le_refl _) _⟩
  · go_enter Tryz.func50, Tryz.ntmps50
    go_wp2_with fail
    refine bodyPost_ret (v := .agg #[.slice a 1 c, .int .i64 1, .int .i64 0, .int .i64 0]) (by simp [results, Tryz.results50, go_sem]) rfl ⟨rfl, (Below.refl _ w).alloc (Nat.le_refl _) _⟩
  · have h1 : ((n : Int) == 0) = false := by simp; omega
    go_enter Tryz.func50, Tryz.ntmps50
    go_wp2_with fail
    refine bodyPost_ret (v := .agg #[.slice a n c, .int .i64 2, .int .i64 bl, .int .i64 ind]) (by simp [results, Tryz.results50, go_sem]) rfl ⟨rfl, (Below.refl _ w).alloc (Nat.le_refl _) _⟩

/-- One piece of fodder more. -/
def AddP (B b : Nat) (t : ByteArray) (p ts n m : Nat) (w : World) (e : Ending) (w' : World) : Prop := e = .returned (.tuple #[]) ∧ LexI B b t p ts n (m + 1) w' ∧ Below B w w'

set_option maxRecDepth 100000 in
set_option maxHeartbeats 3200000 in
theorem addFodder_any (B b : Nat) (t : ByteArray) (p ts n m : Nat) (w : World) (h : LexI B b t p ts n m w) (hm : m ≤ 1000000) (k bl ind : Int) (a : Option Addr) (q c : Nat) (hk : (k = 0 ∧ q ≤ 1) ∨ (k = 1 ∧ bl = 0 ∧ ind = 0 ∧ q = 1) ∨ (k = 2 ∧ 0 < q)) :
    Calls Tryz.prog 29 #[.pointer (some ⟨b, 0, none⟩), .int .i64 k, .int .i64 bl, .int .i64 ind, .slice a q c] w (AddP B b t p ts n m w) := by
  obtain ⟨src, tv, fv, l1, l2, ln, ls, fr, xs, ys, h⟩ := h
  obtain ⟨i0, hi0, hz0, hz1, hz2⟩ := info_parts Tryz.info84
  have hlt := h.lt
  have hbase := h.base
  have H0 := Lib.hid h
  obtain ⟨_, fa, fc, rfl⟩ := h.forms
  clear h
  go_enter Tryz.func29, Tryz.ntmps29
  go_wp2_with (go_at_call 50; refine (makeFodder_any k bl ind a q c _ hk).mono ?_; rintro e w1 ⟨rfl, hb1⟩)
  have hW : Below w.heap.size w (w1.alloc (.cells #[.slice a q c, .int .i64 k, .int .i64 bl, .int .i64 ind] 84)) := hb1.trans ((Below.refl _ w1).alloc hb1.size _)
  have hb0 := (heap_alloc_new w1 (.cells #[.slice a q c, .int .i64 k, .int .i64 bl, .int .i64 ind] 84))
  have hsz := hb1.size
  generalize w1.alloc (.cells #[.slice a q c, .int .i64 k, .int .i64 bl, .int .i64 ind] 84) = W at hW hb0 ⊢
  generalize w1.heap.size = h at hb0 hsz ⊢
  have h1 := H0.out.old hW
  refine wp_region_held_tail 6 8 (fun w' => w'.heap[b]? = some (.cells (lexCells t src tv (.slice fa m fc) ts l1 l2 fr p ln ls) 69 (0, 0)) ∧ w'.heap[h]? = some (.cells #[.slice a q c, .int .i64 k, .int .i64 bl, .int .i64 ind] 84 (0, 0))) (by kernel_rfl) (by kernel_rfl) (by intro c a' d' v' w' h'; cases d' <;> exact h') ⟨h1.blk, hb0⟩ ?_
  simp only [List.take_succ_cons, List.take_zero, List.drop_succ_cons, List.drop_zero]
  iterate 6
    refine wpHeld_cons ?_ (by rfl) (fun w' hSw => ?_) ?_
    rotate_left 1
    · obtain ⟨q1, q2⟩ := hSw
      obtain ⟨_, _, _, _, q5, _⟩ := cells_at q1
      have z0 : w'.cell? ⟨h, 0, none⟩ = some (.slice a q c) := by simp [World.cell?, q2]
      have z1 : w'.cell? ⟨h, 1, none⟩ = some (.int .i64 k) := by simp [World.cell?, q2]
      have z2 : w'.cell? ⟨h, 2, none⟩ = some (.int .i64 bl) := by simp [World.cell?, q2]
      have z3 : w'.cell? ⟨h, 3, none⟩ = some (.int .i64 ind) := by simp [World.cell?, q2]
      go_simp
      try with_reducible rfl
    simp only [Act.put, List.setIfInBounds_toArray, List.set_cons_zero, List.set_cons_succ]
  refine wpHeld_nil ?_
  refine wpMid_cons (fun K hK => ?_)
  go_simp
  have hAl : Below W.heap.size W (W.alloc (.cells #[.slice a q c, .int .i64 k, .int .i64 bl, .int .i64 ind] 84)).drew := ((Below.refl _ W).alloc (Nat.le_refl _) _).drew
  have hhW : h < W.heap.size := (Array.getElem?_eq_some_iff.1 hb0).1
  refine hK _ _ ⟨(h1.old hAl).blk, by rw [hAl.block h hhW]; exact hb0⟩ ?_
  clear hK K
  refine wpMid_cons (fun K hK => ?_)
  refine step_append_lies _ (by rfl) _ _ _ (by rfl) B 84 i0 _ 4 48 Tryz.underlying65 hi0 hz0 hz1 hz2 rfl (by omega) (.slice fa m fc) m ys (by rfl) (h1.fod.alloc _) ⟨W.heap.size, 0, none⟩ 1 1 [.slice a q c, .int .i64 k, .int .i64 bl, .int .i64 ind] (by rfl) (by rfl) (World.news_of_block (cs := #[.slice a q c, .int .i64 k, .int .i64 bl, .int .i64 ind]) (t := 84) (fr := (0, 0)) (heap_alloc_new W _)) (by simp [Value.oneCell']) (by omega) (by unfold maxLen; omega) (by omega) (by have := h1.base; simp; omega) (W.heap.size + 1) (by simp) ?_
  intro g cap w3 hown3 hgrow hat hlt3
  have h3 := h1.farFod hAl hgrow
  have h3h : w3.heap[h]? = some (.cells #[.slice a q c, .int .i64 k, .int .i64 bl, .int .i64 ind] 84 (0, 0)) := by
    rw [hgrow.block h (by have := hAl.size; omega) (fun e => by have := (H0.out.fod.lt h e.symm).2; omega), hAl.block h hhW]
    exact hb0
  refine hK _ _ ⟨h3, h3h⟩ ?_
  clear hK K
  have h4 := (h1.old hAl).newFod hown3 hgrow (hat.imp id (fun e => by simpa using e)) (h1.tyMore _ _ _ _)
  obtain ⟨_, _, _, _, y5, _, _, _, _, _, _, _, yf⟩ := cells_at h3
  have y5f := yf 5
  have H4 := Lib.hid h4
  have HB : Below B w (w3.setCell ⟨b, 5, none⟩ (.slice (some ⟨g, 0, none⟩) (m + 1) cap)) := by
    refine Below.setCell ?_ H0.out.hB _
    exact (((hW.mono H0.out.base).trans (hAl.mono h1.base))).grown hgrow (by have := (h1.old hAl).base; exact this) (fun k hk => (H0.out.fod.lt k hk).1)
  clear h1 h4 h3 hown3 yf
  refine wpMid_nil ?_
  go_wp2_with fail
  go_end0
  exact ⟨rfl, H4.out.i, HB⟩

end Go.Proofs.YtjjmgnllhihoeaaGreatFmt

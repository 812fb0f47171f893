/- The lexer and a row of runes beside it. -/
import Derived.Test.YtjjmgnllhihoeaaGreatFmtBuf
import Derived.Laws.Cover4
set_option linter.unusedSimpArgs false
set_option linter.unusedVariables false
namespace Go.Proofs.YtjjmgnllhihoeaaGreatFmt
open Go.RowKit

/-- The lexer in block b, and a slice v of the runes zs. -/
structure VB (B b : Nat) (t : ByteArray) (p ts n m : Nat) (v : Value) (zs : List Int) (w : World) : Prop where
  lex : LexI B b t p ts n m w
  row : w.ownsRow B 21 1 v zs.length (zs.map (Value.int .i32))

section
variable {B b : Nat} {t : ByteArray} {p ts n m : Nat} {v : Value} {zs : List Int} {w w' : World}

theorem VB.own (h : VB B b t p ts n m v zs w) : ∀ g, v.ownBlock = some g → ∃ c, w.heap[g]? = some (.cells c 21 (0, 0)) := by
  intro g hg
  rcases h.row.2 with ⟨hv, _⟩ | ⟨g', cap, cur, hv, _, hgg, _⟩
  · rw [hv] at hg; simp [Value.ownBlock] at hg
  · rw [hv] at hg
    simp [Value.ownBlock] at hg
    subst hg
    exact ⟨_, hgg⟩

theorem row_old {e : TypeId} {n' : Nat} {xs : List Value} (h : w.ownsRow B e 1 v n' xs) (hb : Below w.heap.size w w') : w'.ownsRow B e 1 v n' xs := by
  refine ⟨h.1, ?_⟩
  rcases h.2 with hn | ⟨g, cap, cur, hv, hg1, hg2, rest⟩
  · exact .inl hn
  · exact .inr ⟨g, cap, cur, hv, hg1, by rw [hb.block g (Array.getElem?_eq_some_iff.1 hg2).1]; exact hg2, rest⟩

theorem VB.old (h : VB B b t p ts n m v zs w) (hb : Below w.heap.size w w') : VB B b t p ts n m v zs w' := ⟨h.lex.old hb, row_old h.row hb⟩

theorem VB.nexted (h : VB B b t p ts n m v zs w) {p' ts' n' m' : Nat} (hL : LexI B b t p' ts' n' m' w') (hg : w.grownBy w' (some b)) : VB B b t p' ts' n' m' v zs w' := by
  obtain ⟨cs, hb⟩ := h.lex.blk
  refine ⟨hL, h.row.kept hg (.inr (fun e => ?_))⟩
  obtain ⟨c, hc⟩ := h.own b e
  rw [hb] at hc
  cases hc

theorem VB.pushed (h : VB B b t p ts n m v zs w) {v' : Value} {zs' : List Int} (hg : w.grownBy w' v.ownBlock) (hb : Below B w w') (hr : w'.ownsRow B 21 1 v' zs'.length (zs'.map (Value.int .i32))) : VB B b t p ts n m v' zs' w' := by
  refine ⟨?_, hr⟩
  obtain ⟨src, tv, fv, l1, l2, ln, ls, fr, xs, ys, hx⟩ := h.lex
  refine (hx.carry (fun k cs T hk hT => ?_) hb).i
  rw [hg.block k (Array.getElem?_eq_some_iff.1 hk).1 (fun e => ?_)]
  · exact hk
  · obtain ⟨c, hc⟩ := h.own k e.symm
    rw [hk] at hc
    injection hc with hc
    injection hc with _ h5 _
    rw [h5] at hT
    revert hT; decide

theorem VB.next (h : VB B b t p ts n m v zs w) {r : Int} (hr : rv t p = r) : Calls Tryz.prog 27 #[.pointer (some ⟨b, 0, none⟩)] w (fun e w' => e = .returned (.int .i32 r) ∧ VB B b t (nx t p) ts n m v zs w' ∧ Below B w w') := by
  subst hr
  exact (next_any B b t p ts n m w h.lex).mono fun _ _ ⟨he, hL, hg⟩ => ⟨he, h.nexted hL hg, (Below.refl B w).grown hg h.lex.baseW (fun k hk => by cases hk; exact h.lex.base)⟩

theorem VB.peek (h : VB B b t p ts n m v zs w) {r : Int} (hr : rv t p = r) : Calls Tryz.prog 26 #[.pointer (some ⟨b, 0, none⟩)] w (fun e w' => e = .returned (.int .i32 r) ∧ VB B b t p ts n m v zs w' ∧ Below B w w') := by
  subst hr
  exact (peek_any B b t p ts n m w h.lex).mono fun _ _ ⟨he, _, hb⟩ => ⟨he, h.old hb, hb.mono h.lex.baseW⟩

theorem conv_row (h : w.ownsRow B 21 1 v zs.length (zs.map (Value.int .i32))) : ∃ s : ByteArray, (convert 39 9 v).run Tryz.prog w = .ok (.string s) w := by
  rcases h.2 with ⟨rfl, _⟩ | ⟨g, cap, cur, rfl, _⟩
  · exact ⟨_, run_convert_runes_nil (P := Tryz.prog) w 39 9 21 0 0 Tryz.underlying39 Tryz.underlying21 Tryz.underlying9⟩
  · refine ⟨_, run_convert_runes (P := Tryz.prog) w 39 9 21 ⟨g, 0, none⟩ zs.length cap zs (Nat.le_refl _) Tryz.underlying39 Tryz.underlying21 Tryz.underlying9 (fun j hj => ?_)⟩
    exact h.cells (g := g) rfl j _ (by simp [hj, List.getD])
end

theorem Tryz.info21 : (Tryz.prog.info? 21).map (fun i => (i.zero, i.size, i.bytes)) = some (some (.int .i32 0), 1, 4) := by kernel_rfl
theorem push_int (zs : List Int) (x : Int) : zs.map (Value.int .i32) ++ [.int .i32 x] = (zs ++ [x]).map (Value.int .i32) := by simp
end Go.Proofs.YtjjmgnllhihoeaaGreatFmt

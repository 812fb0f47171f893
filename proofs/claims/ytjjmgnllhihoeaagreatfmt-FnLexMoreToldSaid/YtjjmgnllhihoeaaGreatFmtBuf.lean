/- The lexer and a buffer beside it: what stays of both behind the callees that write one of them. -/
import Derived.Test.YtjjmgnllhihoeaaGreatFmtIdent
set_option linter.unusedSimpArgs false
set_option linter.unusedVariables false
namespace Go.Proofs.YtjjmgnllhihoeaaGreatFmt
open Go.RowKit

/-- The lexer in block b, and a buffer in block q that holds acc. -/
def LB (B b : Nat) (t : ByteArray) (p ts n m q : Nat) (acc : List UInt8) (w : World) : Prop := LexI B b t p ts n m w ∧ Lib.IsBuffer 89 5 B q (Lib.byteCells acc) w

section
variable {B b : Nat} {t : ByteArray} {p ts n m q : Nat} {acc : List UInt8} {w w' : World}

theorem LB.old (h : LB B b t p ts n m q acc w) (hb : Below w.heap.size w w') : LB B b t p ts n m q acc w' := ⟨h.1.old hb, h.2.old hb⟩

theorem LexI.blk (h : LexI B b t p ts n m w) : ∃ cs, w.heap[b]? = some (.cells cs 69 (0, 0)) := by
  obtain ⟨_, _, _, _, _, _, _, _, _, _, h⟩ := h; exact ⟨_, h.blk⟩

theorem LexI.baseW (h : LexI B b t p ts n m w) : B ≤ w.heap.size := Nat.le_of_lt (Nat.lt_of_le_of_lt h.base h.lt)

/-- A buffer stays while the lexer's block is written. -/
theorem buf_kept {cs : Array Value} (h : Lib.IsBuffer 89 5 B q (Lib.byteCells acc) w) (hb : w.heap[b]? = some (.cells cs 69 (0, 0))) (hg : w.grownBy w' (some b)) : Lib.IsBuffer 89 5 B q (Lib.byteCells acc) w' := by
  have hlt := h.lt
  obtain ⟨hB, v, lr, hbk, hown, hne⟩ := h
  have hqb : q ≠ b := by intro e; subst e; rw [hb] at hbk; cases hbk
  refine ⟨hB, v, lr, by rw [hg.block q hlt (fun e => hqb (Option.some.inj e))]; exact hbk, hown.kept hg (.inr ?_), hne⟩
  rcases hown.2 with ⟨hv, _⟩ | ⟨g, cap, cur, hv, _, hgg, _⟩
  · rw [hv]; simp [Value.ownBlock]
  · rw [hv]
    simp only [Value.ownBlock]
    intro e
    have : g = b := Option.some.inj e
    subst this
    rw [hb] at hgg
    cases hgg

theorem LB.nexted (h : LB B b t p ts n m q acc w) {p' ts' n' m' : Nat} (hL : LexI B b t p' ts' n' m' w') (hg : w.grownBy w' (some b)) : LB B b t p' ts' n' m' q acc w' := by
  obtain ⟨cs, hb⟩ := h.1.blk
  exact ⟨hL, buf_kept h.2 hb hg⟩

theorem LB.belowN (h : LB B b t p ts n m q acc w) (hg : w.grownBy w' (some b)) : Below B w w' := (Below.refl B w).grown hg h.1.baseW (fun k hk => by cases hk; exact h.1.base)

theorem LB.wrote (h : LB B b t p ts n m q acc w) {acc' : List UInt8} (hI : Lib.IsBuffer 89 5 B q (Lib.byteCells acc') w') (hb : Below B w w') (ho : Lib.OthersKept 5 (some q) w w') : LB B b t p ts n m q acc' w' := by
  obtain ⟨_, v, lr, hbk, _⟩ := h.2
  exact ⟨h.1.others hbk (by decide) ho hb, hI⟩

/-- peek. -/
theorem peek_buf (h : LB B b t p ts n m q acc w) : Calls Tryz.prog 26 #[.pointer (some ⟨b, 0, none⟩)] w (fun e w' => e = .returned (.int .i32 (rv t p)) ∧ LB B b t p ts n m q acc w' ∧ Below B w w') :=
  (peek_any B b t p ts n m w h.1).mono fun _ _ ⟨he, _, hb⟩ => ⟨he, h.old hb, hb.mono h.1.baseW⟩

/-- next. -/
theorem next_buf (h : LB B b t p ts n m q acc w) : Calls Tryz.prog 27 #[.pointer (some ⟨b, 0, none⟩)] w (fun e w' => e = .returned (.int .i32 (rv t p)) ∧ LB B b t (nx t p) ts n m q acc w' ∧ Below B w w') :=
  (next_any B b t p ts n m w h.1).mono fun _ _ ⟨he, hL, hg⟩ => ⟨he, h.nexted hL hg, h.belowN hg⟩

/-- acceptN. -/
theorem accept_buf (h : LB B b t p ts n m q acc w) (k : Nat) (hq : ∀ j, p ≤ j → j < p + k → ch t j < 128) (hk : k ≤ 1000000) :
    Calls Tryz.prog 65 #[.pointer (some ⟨b, 0, none⟩), .int .i64 k] w (fun e w' => e = .returned (.tuple #[]) ∧ LB B b t (p + k) ts n m q acc w' ∧ Below B w w') :=
  (acceptN_any B b t p k ts n m w h.1 hq hk).mono fun _ _ ⟨he, hL, hg⟩ => ⟨he, h.nexted hL hg, h.belowN hg⟩

/-- WriteRune. -/
theorem write_buf (h : LB B b t p ts n m q acc w) (r : Int) (hr0 : -2147483648 ≤ r) (hr1 : r ≤ 2147483647) (hl : acc.length ≤ 1000000) :
    Calls Tryz.prog 51 #[.pointer (some ⟨q, 0, none⟩), .int .i32 r] w (fun e w' => (∃ k : Int, e = .returned (.tuple #[.int .i64 k, .nilIface])) ∧ LB B b t p ts n m q (acc ++ Lib.encodeRune r) w' ∧ Below B w w') :=
  (Tryz.Buffer_WriteRune_k B q _ r hr0 hr1 w h.2 h.1.baseW (by intro v hv; simp [Lib.byteCells] at hv; obtain ⟨x, _, rfl⟩ := hv; rfl) (by simp [Lib.byteCells]; omega)).mono
    fun _ _ ⟨he, hI, hb, ho⟩ => ⟨⟨_, he⟩, h.wrote (by rw [Lib.byteCells_append, Lib.byteCells_encodeRune]; exact hI) hb ho, hb⟩

theorem enc_len (r : Int) : (Lib.encodeRune r).length ≤ 4 := by
  have h := (Lib.runeCells_le r).2
  rw [Lib.runeCells_length] at h
  exact h

/-- String. -/
theorem string_buf (h : LB B b t p ts n m q acc w) : Calls Tryz.prog 52 #[.pointer (some ⟨q, 0, none⟩)] w (fun e w' => e = .returned (.string ⟨acc.toArray⟩) ∧ LB B b t p ts n m q acc w' ∧ Below B w w') :=
  (Tryz.Buffer_String B q acc w h.2).mono fun _ _ ⟨he, k, hw⟩ => by
    subst hw
    exact ⟨he, h.old ⟨rfl, rfl, rfl, Nat.le_refl _, fun _ _ => rfl⟩, ⟨rfl, rfl, rfl, Nat.le_refl _, fun _ _ => rfl⟩⟩

/-- Len. -/
theorem len_buf (h : LB B b t p ts n m q acc w) : Calls Tryz.prog 77 #[.pointer (some ⟨q, 0, none⟩)] w (fun e w' => e = .returned (.int .i64 acc.length) ∧ LB B b t p ts n m q acc w' ∧ Below B w w') :=
  (Tryz.Buffer_Len B q _ w h.2).mono fun _ _ ⟨he, k, hw⟩ => by
    subst hw
    exact ⟨by rw [he]; simp [Lib.byteCells], h.old ⟨rfl, rfl, rfl, Nat.le_refl _, fun _ _ => rfl⟩, ⟨rfl, rfl, rfl, Nat.le_refl _, fun _ _ => rfl⟩⟩

/-- A new buffer beside the lexer. -/
theorem LB.fresh (h : LexI B b t p ts n m w) : LB B b t p ts n m w.heap.size [] (w.alloc (.cells #[.slice none 0 0, .int .i64 0, .int .i8 0] 89)) := by
  refine ⟨h.old ((Below.refl _ w).alloc (Nat.le_refl _) _), ?_⟩
  obtain ⟨_, v, lr, h1, h2, h3⟩ := Lib.fresh_isBuffer 89 5 w
  exact ⟨h.baseW, .slice none 0 0, 0, heap_alloc_new w _, World.ownsRow_nil _ _ _ _, by simp [Value.ownBlock]⟩
end
end Go.Proofs.YtjjmgnllhihoeaaGreatFmt

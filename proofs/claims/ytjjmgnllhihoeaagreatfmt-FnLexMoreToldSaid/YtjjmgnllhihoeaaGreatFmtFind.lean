/- Does a rune stand in a text? (Some answer: both ways are walked.) -/
import Derived.Test.YtjjmgnllhihoeaaGreatFmtBuf
set_option linter.unusedSimpArgs false
set_option linter.unusedVariables false
namespace Go.Proofs.YtjjmgnllhihoeaaGreatFmt
open Go.RowKit
attribute [local go_sem ↓] Go.wp_at_zero Go.wp_at_succ

/-- Some number; new blocks alone. -/
def AnyI (w : World) (e : Ending) (w' : World) : Prop := ∃ x : Int, e = .returned (.int .i64 x) ∧ Below w.heap.size w w'

set_option maxHeartbeats 3200000 in
theorem indexRune_any (s : ByteArray) (w : World) : Calls Tryz.prog 79 #[.string s, .int .i32 10] w (AnyI w) := by
  go_enter Tryz.func79, Tryz.ntmps79
  go_wp2_with fail
  go_loopg [] s.size (fun k wr => ∃ pos : Nat, wr.heap[w.heap.size]? = some (.stringIter s pos) ∧ Below w.heap.size w wr ∧ s.size - pos ≤ k)
  case atStart => exact ⟨0, heap_alloc_new w _, (Below.refl _ w).alloc (Nat.le_refl _) _, by omega⟩
  case round =>
    obtain ⟨pos, hit, hb, hk⟩ := hrel
    have HB := Lib.hid hb
    have HK := Lib.hid hk
    clear hb hk
    by_cases hp : pos < s.size
    · have hnx : ∀ ty, (Instr.next (.pointer (some ⟨w.heap.size, 0, none⟩)) true ty).run Tryz.prog wr = _ := fun ty => Lib.run_next_any_at wr w.heap.size s pos ty hit hp
      have hit2 := Lib.hid (Lib.iterAt_heap wr w.heap.size s pos (pos + (Utf8.decode s pos).2) hit)
      have hw1 := Lib.width_pos s pos
      have HB2 := Lib.hid (Lib.below_iterAt HB.out (k := w.heap.size) (Nat.le_refl _) s (pos + (Utf8.decode s pos).2))
      clear hit
      generalize wr.iterAt w.heap.size s (pos + (Utf8.decode s pos).2) = W1 at *
      generalize Utf8.decode s pos = d at *
      obtain ⟨r, k⟩ := d
      by_cases hr : r = 10
      · subst hr
        go_wp2_with fail
        go_ret
        exact ⟨_, rfl, HB2.out⟩
      · have x10 : ((r : Int) == 10) = false := by simp; omega
        clear hr
        go_wp2_with fail
        have hk := HK.out
        go_roundg (gk - 1)
        case measure => omega
        case rel => exact ⟨pos + k, hit2.out, HB2.out, by omega⟩
    · have hnx : ∀ ty, (Instr.next (.pointer (some ⟨w.heap.size, 0, none⟩)) true ty).run Tryz.prog wr = _ := fun ty => Lib.run_next_end_at wr w.heap.size s pos ty hit hp
      clear hit
      go_wp2_with fail
      go_ret
      exact ⟨_, rfl, HB.out⟩

set_option maxHeartbeats 1000000 in
theorem containsRune_any (s : ByteArray) (w : World) : Calls Tryz.prog 61 #[.string s, .int .i32 10] w (AnyB w) := by
  go_enter Tryz.func61, Tryz.ntmps61
  go_wp2_with (go_at_call 79; refine (indexRune_any s _).mono ?_; rintro e w1 ⟨x, rfl, hb⟩)
  go_ret
  exact ⟨_, rfl, hb⟩

end Go.Proofs.YtjjmgnllhihoeaaGreatFmt

/- impl.Lex over a text that is cut into pieces: one more than its tokens, and true. -/
import Derived.Test.YtjjmgnllhihoeaaGreatFmtLex
set_option linter.unusedSimpArgs false
set_option linter.unusedVariables false
namespace Go.Proofs.YtjjmgnllhihoeaaGreatFmt
open Go.RowKit
attribute [local go_sem ↓] Go.wp_at_zero Go.wp_at_succ

/-- A number, true; new blocks alone. -/
def ImplP (n : Nat) (w : World) (e : Ending) (w' : World) : Prop := e = .returned (.tuple #[.int .i64 ((n + 1 : Nat) : Int), .bool true]) ∧ Below w.heap.size w w'

set_option maxRecDepth 100000 in
set_option maxHeartbeats 3200000 in
theorem impl_any (t : ByteArray) (n : Nat) (w : World) (ht : t.size ≤ 100000) (h2 : 2 ≤ w.heap.size) (hT : Lib.Utf8Tabs 0 1 w) (hc : Chain (ch t) 0 t.size n) :
    Calls Tryz.prog 5 #[.string t] w (ImplP n w) := by
  have H := Lib.hid hc
  have HT := Lib.hid hT
  clear hc hT
  go_enter Tryz.func5, Tryz.ntmps5
  go_wp2_with (go_at_call 8; refine (lex_any t n _ ht h2 HT.out H.out).mono ?_; rintro e w1 ⟨a, c, rfl, hb⟩)
  go_ret2
  exact ⟨rfl, hb⟩
end Go.Proofs.YtjjmgnllhihoeaaGreatFmt

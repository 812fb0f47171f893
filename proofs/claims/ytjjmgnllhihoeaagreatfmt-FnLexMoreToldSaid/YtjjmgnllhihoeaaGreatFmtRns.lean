/- Plain: the runes of a text are numbers; how many there are. -/
import Derived.Test.YtjjmgnllhihoeaaGreatFmtRunes
import Derived.Laws.IdiomStrings
import Derived.Laws.Cover4
set_option linter.unusedSimpArgs false
set_option linter.unusedVariables false
namespace Go.Proofs.YtjjmgnllhihoeaaGreatFmt
open Go.RowKit

theorem runesFrom_ints (s : ByteArray) : ∀ (bound i : Nat) (acc : Array Value), ∃ zs : List Int, Conv.runesFrom s bound i acc = acc ++ (zs.map (Value.int .i32)).toArray ∧
    (0 < bound → i < s.size → 0 < zs.length ∧ zs.getD 0 0 = ((Utf8.decode s i).1 : Int)) ∧ zs.length ≤ bound
  | 0, i, acc => ⟨[], by simp [Conv.runesFrom], by omega, by simp⟩
  | bound + 1, i, acc => by
    by_cases h : i < s.size
    · obtain ⟨zs, h1, _, h3⟩ := runesFrom_ints s bound (i + (Utf8.decode s i).2) (acc.push (.int .i32 (Int.ofNat (Utf8.decode s i).1)))
      refine ⟨((Utf8.decode s i).1 : Int) :: zs, ?_, fun _ _ => ⟨by simp, by simp⟩, by simp; omega⟩
      unfold Conv.runesFrom
      rw [if_pos h]
      show Conv.runesFrom s bound (i + (Utf8.decode s i).2) (acc.push (.int .i32 (Int.ofNat (Utf8.decode s i).1))) = _
      rw [h1]
      apply Array.ext'
      simp
    · exact ⟨[], by unfold Conv.runesFrom; rw [if_neg h]; simp, fun _ h' => absurd h' h, by simp⟩
end Go.Proofs.YtjjmgnllhihoeaaGreatFmt

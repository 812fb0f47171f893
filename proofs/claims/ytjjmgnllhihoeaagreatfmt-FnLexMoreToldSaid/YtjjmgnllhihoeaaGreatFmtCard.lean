/- FnLexMore holds: two texts with a newline between have as many tokens as both have, the first of them as many as the description says. Conditions: fmt's text is told by the kit's Lean function; the listed variables of Go's library hold what the program's text lays; the inputs lie within the form's reach. -/
import Derived.Test.YtjjmgnllhihoeaaGreatFmtTold
import Derived.SevenTiedAt
set_option linter.unusedSimpArgs false
set_option linter.unusedVariables false
namespace Go.Proofs.YtjjmgnllhihoeaaGreatFmt
open Go.Extern.Stop Go.Stop Go.Extern

theorem Tryz.laidOut : laidOutB Tryz.pinned.checked.prog = true := by kernel_rfl
theorem Tryz.stops : Tryz.pinned.checked.prog.stops = ["fmt.Sprintf"] := by kernel_rfl
theorem Tryz.stopKnobs : Tryz.pinned.checked.prog.stopKnobs = [] := by kernel_rfl
theorem Tryz.quiet (os : Os) : Stop.quiet Tryz.pinned.checked.prog os := by
  intro k hk
  rw [Tryz.stopKnobs] at hk
  cases hk

theorem card_holds : Rows.FnLexMoreToldSaid :=
  Claim7.holds_of_told_tied_any_at .later 3 Tryz.f3 "fmt.Sprintf" [] [] _ _ _ _ _ (by kernel_rfl) rfl rfl rfl Tryz.laidOut (by kernel_rfl) rfl ⟨rfl, rfl, rfl, rfl, rfl, rfl, rfl⟩ rfl rfl (by kernel_rfl) (by kernel_rfl) Tryz.func3 (by kernel_rfl)
    (of_decide_eq_true (by kernel_rfl)) (by unfold Func.isWrapper; rw [if_neg (of_decide_eq_false (by kernel_rfl))]; exact ⟨rfl, rfl⟩) Tryz.stops.symm rfl Tryz.stopKnobs.symm (by kernel_rfl)
    (by kernel_rfl) (by kernel_rfl) (by kernel_rfl) (by kernel_rfl) (by kernel_rfl) (by kernel_rfl) (by kernel_rfl) (by kernel_rfl) (by kernel_rfl) rfl (by kernel_rfl) rfl rfl
    rfl rfl
    rfl (by kernel_rfl) (by kernel_rfl) (by kernel_rfl) (by decide) (by kernel_rfl) fnLexMore_row_tie
    (OpenClaim.moreEntering_of (by kernel_rfl) (by kernel_rfl) (by kernel_rfl) (by kernel_rfl) (by kernel_rfl) (by kernel_rfl) (by kernel_rfl) (by kernel_rfl) (by kernel_rfl) (by kernel_rfl))
    ⟨_, WideRow.started_initial, Tryz.quiet _⟩
    (fun os started _ H enc _ => t_lifted os started H enc)

#print axioms card_holds
end Go.Proofs.YtjjmgnllhihoeaaGreatFmt

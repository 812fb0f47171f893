/-
  DERIVED. GIVEN WITH THE SEED: THE CARDS: each row of YtjjmgnllhihoeaaGreatFmtRows.lean that lists a variable, with what it lists TIED to the program's text (the seventh form; the later family's looks); each row that meets fmt, with fmt's text TOLD by the authors' own Lean function (tested against real Go, not proved from fmt's source: count such statements apart). THE CARD IS WHAT COUNTS. Prove the row's statement (the work); the ties are given (YtjjmgnllhihoeaaGreatFmtTie.lean); close each card by the builder's one call (the guide's Derived/Test/ToyasCard.lean, 'card_holds'). Laid BY PROGRAM, IN A SANDBOX (cutbox-door.mjs). By AI agents, Wed Nov 11 2026. No macro, syntax, notation, axiom, sorry.
-/
import Derived.Test.YtjjmgnllhihoeaaGreatFmtRows
import GoSem.ClaimSeven
namespace Go.Proofs.YtjjmgnllhihoeaaGreatFmt
namespace Rows

/-- THE TOLD AND TIED CARD OF 'laws.FnLexMore'. -/
def fnLexMoreCard : Claim7 := { stood := { row := fnLexMoreRow, standIns := [], harness := (true, "40b47115521b3069a202606acda66621233b4d54ad648dd543e296183e74b7f6"), looks := false }, told := true, laidByText := true, laidKinds := [.data, .sentinel, .pinned, .pinned, .pinned, .pinned, .pinned, .pinned], laidTests := true, laidLooks := .later, goes := false }
def FnLexMoreToldSaid : Prop := Claim7.holds Tryz.pinned (.plain (OpenSpec.ofChange fnLexMoreSpec)) fnLexMoreCard
/-- ITS FALSE NEIGHBOUR. Refute it at one input. -/
def FnLexMoreToldWrongFalsely : Prop := Claim7.holds Tryz.pinned (.plain (OpenSpec.ofChange fnLexMoreWrong)) fnLexMoreCard
end Rows
end Go.Proofs.YtjjmgnllhihoeaaGreatFmt

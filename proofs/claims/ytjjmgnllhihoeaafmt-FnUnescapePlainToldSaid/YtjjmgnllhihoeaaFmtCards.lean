/-
  DERIVED. GIVEN WITH THE SEED: THE CARDS: each row of YtjjmgnllhihoeaaFmtRows.lean that lists a variable, with what it lists TIED to the program's text (the seventh form; the later family's looks); each row that meets fmt, with fmt's text TOLD by the authors' own Lean function (tested against real Go, not proved from fmt's source: count such statements apart). THE CARD IS WHAT COUNTS. Prove the row's statement (the work); the ties are given (YtjjmgnllhihoeaaFmtTie.lean); close each card by the builder's one call (the guide's Derived/Test/ToyasCard.lean, 'card_holds'). Laid BY PROGRAM, IN A SANDBOX (cutbox-door.mjs). By AI agents, Wed Nov 11 2026. No macro, syntax, notation, axiom, sorry.
-/
import Derived.Test.YtjjmgnllhihoeaaFmtRows
import GoSem.ClaimSeven
namespace Go.Proofs.YtjjmgnllhihoeaaFmt
namespace Rows

/-- THE TOLD AND TIED CARD OF 'laws.FnUnescapePlain'. -/
def fnUnescapePlainCard : Claim7 := { stood := { row := fnUnescapePlainRow, standIns := [], harness := (true, "fb4ae8ea3a004b260091259ea7c96447f2e6b922b98be74870a01de9fad5120c"), looks := false }, told := true, laidByText := true, laidKinds := [.data, .sentinel, .sentinel, .pinned], laidTests := true, laidLooks := .later, goes := false }
def FnUnescapePlainToldSaid : Prop := Claim7.holds Tryf.pinned (.plain (OpenSpec.ofChange fnUnescapePlainSpec)) fnUnescapePlainCard
/-- ITS FALSE NEIGHBOUR. Refute it at one input. -/
def FnUnescapePlainToldWrongFalsely : Prop := Claim7.holds Tryf.pinned (.plain (OpenSpec.ofChange fnUnescapePlainWrong)) fnUnescapePlainCard
end Rows
end Go.Proofs.YtjjmgnllhihoeaaFmt

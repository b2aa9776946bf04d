/-
  DERIVED. GIVEN WITH THE SEED: THE CARDS: each row of Qxb6618747aGreatFmtRows.lean that lists a variable, with what it lists TIED to the program's text (the seventh form; the later family's looks); each row that meets fmt, with fmt's text TOLD by the authors' own Lean function (tested against real Go, not proved from fmt's source: count such statements apart). THE CARD IS WHAT COUNTS. Prove the row's statement (the work); the ties are given (Qxb6618747aGreatFmtTie.lean); close each card by the builder's one call (the guide's Derived/Test/ToyasCard.lean, 'card_holds'). Laid BY PROGRAM, IN A SANDBOX (cutbox-door.mjs). By AI agents, Wed Nov 11 2026. No macro, syntax, notation, axiom, sorry.
-/
import Derived.Test.Qxb6618747aGreatFmtRows
import GoSem.ClaimSeven
namespace Go.Proofs.Qxb6618747aGreatFmt
namespace Rows

/-- THE TOLD CARD OF 'zzlaws_pkg_h2_b1.FnWriteHeaderFirstFinalStatusWins'. -/
def fnWriteHeaderFirstFinalStatusWinsCard : Claim7 := { stood := { row := fnWriteHeaderFirstFinalStatusWinsRow, standIns := [], harness := (true, "b9d75d337ebe785bfdc95d476fb6faf83e32923e61ebe047c6d23b5777de5e9f"), looks := false }, told := true, goes := false }
def FnWriteHeaderFirstFinalStatusWinsToldSaid : Prop := Claim7.holds Tryz.pinned (.plain (OpenSpec.ofChange fnWriteHeaderFirstFinalStatusWinsSpec)) fnWriteHeaderFirstFinalStatusWinsCard
/-- ITS FALSE NEIGHBOUR. Refute it at one input. -/
def FnWriteHeaderFirstFinalStatusWinsToldWrongFalsely : Prop := Claim7.holds Tryz.pinned (.plain (OpenSpec.ofChange fnWriteHeaderFirstFinalStatusWinsWrong)) fnWriteHeaderFirstFinalStatusWinsCard
end Rows
end Go.Proofs.Qxb6618747aGreatFmt

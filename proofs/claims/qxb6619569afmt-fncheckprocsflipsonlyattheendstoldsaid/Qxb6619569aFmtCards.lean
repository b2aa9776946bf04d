/-
  DERIVED. GIVEN WITH THE SEED: THE CARDS: each row of Qxb6619569aFmtRows.lean that lists a variable, with what it lists TIED to the program's text (the seventh form; the later family's looks); each row that meets fmt, with fmt's text TOLD by the authors' own Lean function (tested against real Go, not proved from fmt's source: count such statements apart). THE CARD IS WHAT COUNTS. Prove the row's statement (the work); the ties are given (Qxb6619569aFmtTie.lean); close each card by the builder's one call (the guide's Derived/Test/ToyasCard.lean, 'card_holds'). Laid BY PROGRAM, IN A SANDBOX (cutbox-door.mjs). By AI agents, Wed Nov 11 2026. No macro, syntax, notation, axiom, sorry.
-/
import Derived.Test.Qxb6619569aFmtRows
import GoSem.ClaimSeven
namespace Go.Proofs.Qxb6619569aFmt
namespace Rows

/-- THE TOLD CARD OF 'zzlaws_pkg_workload_e1.FnCheckProcsAcceptsExactlyOneToMaxProcs'. -/
def fnCheckProcsAcceptsExactlyOneToMaxProcsCard : Claim7 := { stood := { row := fnCheckProcsAcceptsExactlyOneToMaxProcsRow, standIns := [], harness := (true, "5d098a60b011b95c41562547ad0b5f882145d02b892179c3a5b2c1550fe85895"), looks := false }, told := true, goes := false }
def FnCheckProcsAcceptsExactlyOneToMaxProcsToldSaid : Prop := Claim7.holds Tryf.pinned (.plain (OpenSpec.ofChange fnCheckProcsAcceptsExactlyOneToMaxProcsSpec)) fnCheckProcsAcceptsExactlyOneToMaxProcsCard
/-- ITS FALSE NEIGHBOUR. Refute it at one input. -/
def FnCheckProcsAcceptsExactlyOneToMaxProcsToldWrongFalsely : Prop := Claim7.holds Tryf.pinned (.plain (OpenSpec.ofChange fnCheckProcsAcceptsExactlyOneToMaxProcsWrong)) fnCheckProcsAcceptsExactlyOneToMaxProcsCard

/-- THE TOLD CARD OF 'zzlaws_pkg_workload_e1.FnCheckProcsFlipsOnlyAtTheEnds'. -/
def fnCheckProcsFlipsOnlyAtTheEndsCard : Claim7 := { stood := { row := fnCheckProcsFlipsOnlyAtTheEndsRow, standIns := [], harness := (true, "5d098a60b011b95c41562547ad0b5f882145d02b892179c3a5b2c1550fe85895"), looks := false }, told := true, goes := false }
def FnCheckProcsFlipsOnlyAtTheEndsToldSaid : Prop := Claim7.holds Tryf.pinned (.plain (OpenSpec.ofChange fnCheckProcsFlipsOnlyAtTheEndsSpec)) fnCheckProcsFlipsOnlyAtTheEndsCard
/-- ITS FALSE NEIGHBOUR. Refute it at one input. -/
def FnCheckProcsFlipsOnlyAtTheEndsToldWrongFalsely : Prop := Claim7.holds Tryf.pinned (.plain (OpenSpec.ofChange fnCheckProcsFlipsOnlyAtTheEndsWrong)) fnCheckProcsFlipsOnlyAtTheEndsCard
end Rows
end Go.Proofs.Qxb6619569aFmt

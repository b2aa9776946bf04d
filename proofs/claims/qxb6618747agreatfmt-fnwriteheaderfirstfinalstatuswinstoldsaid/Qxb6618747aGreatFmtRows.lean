/-
  No cell of these rows narrows 'for every input' (looked for: loops, veiled, ifaces, maps, wideKeys, modest, calm, conditions, laid).
  DERIVED. THE GIVEN ROWS OF THIS SEAT. 1 by the template 'for every input the law returns true; each argument reads behind the call as it read before'; 0 by the template 'total and deterministic' (their statements: Qxb6618747aGreatFmtTotals.lean).
  GIVEN WITH THE SEED: the statements are not yours to turn. If you find one false, say at which input.
  Laid BY PROGRAM, IN A SANDBOX (cutbox-rows.mjs): the forced cells as the released guide's own fill.sh prints them over the translation 5500e6ddc1efb397… (all of the seat's roots in one cut). By AI agents, Wed Nov 11 2026. No macro, syntax, notation, axiom, sorry.
-/
import Derived.Test.Qxb6618747aGreatFmtChecked
import GoSem.Claim
import GoSem.ClaimJoined
import GoSem.ClaimMapViews
import Derived.JoinedTies
import Derived.KernelRfl
namespace Go.Proofs.Qxb6618747aGreatFmt
/- THE CELL 'sum', in the pinned program and in every row, IS THE sha256 OF THE DUMP (.gsa) THAT Qxb6618747aGreatFmtProg.lean LOADS. Nothing in Lean hashes anything: it is a label: what it is worth is what the hold of that sum in a sandbox is worth. -/
noncomputable def Tryz.pinned : Pinned := { name := "qxb6618747agreatfmt", sum := "5500e6ddc1efb397aac32dd25f8911c74cf93af584a484d635d156df5cd136b4", checked := Tryz.checked }
namespace Rows
def none {H : Type} : Left H := { results := [], args := [] }

/-- 'zzlaws_pkg_h2_b1.FnWriteHeaderFirstFinalStatusWins': WHATEVER THE INPUT: true; the input reads as it did. -/
def fnWriteHeaderFirstFinalStatusWinsSpec : ChangeSpec := { name := "fnWriteHeaderFirstFinalStatusWins", fn := fun _ => fun
  | [d1, d2] => { results := [.lit (.bool true)], args := [d1, d2] }
  | _ => none }
def fnWriteHeaderFirstFinalStatusWinsRow : OpenClaim := { program := "qxb6618747agreatfmt", sum := "5500e6ddc1efb397aac32dd25f8911c74cf93af584a484d635d156df5cd136b4", func := "example.com/cross-tokenreview/cross-tokenreview/zzlaws_pkg_h2_b1.FnWriteHeaderFirstFinalStatusWins", spec := "fnWriteHeaderFirstFinalStatusWins", stops := ["fmt.Sprintf"], inPlace := ["fmt.Sprintf"], plainKeys := false, apart := false }
/-- NO THEOREM (fmt's text is open here; it may be false): for the released tool's asking of the row's closed facts alone. THE STATEMENT IS 'FnWriteHeaderFirstFinalStatusWinsToldSaid' (Qxb6618747aGreatFmtCards.lean). -/
def FnWriteHeaderFirstFinalStatusWinsFormAsk : Prop := fnWriteHeaderFirstFinalStatusWinsRow.holds Tryz.pinned (OpenSpec.ofChange fnWriteHeaderFirstFinalStatusWinsSpec)

/-- ITS FALSE NEIGHBOUR: 'it returns false'. Refute it at one input. -/
def fnWriteHeaderFirstFinalStatusWinsWrong : ChangeSpec := { name := "fnWriteHeaderFirstFinalStatusWins", fn := fun _ => fun
  | [d1, d2] => { results := [.lit (.bool false)], args := [d1, d2] }
  | _ => none }
def FnWriteHeaderFirstFinalStatusWinsWrongFormAsk : Prop := fnWriteHeaderFirstFinalStatusWinsRow.holds Tryz.pinned (OpenSpec.ofChange fnWriteHeaderFirstFinalStatusWinsWrong)

end Rows
end Go.Proofs.Qxb6618747aGreatFmt

/-
  No cell of these rows narrows 'for every input' (looked for: loops, veiled, ifaces, maps, wideKeys, modest, calm, conditions, laid).
  DERIVED. THE GIVEN ROWS OF THIS SEAT. 2 by the template 'for every input the law returns true; each argument reads behind the call as it read before'; 0 by the template 'total and deterministic' (their statements: Qxb6619569aFmtTotals.lean).
  GIVEN WITH THE SEED: the statements are not yours to turn. If you find one false, say at which input.
  Laid BY PROGRAM, IN A SANDBOX (cutbox-rows.mjs): the forced cells as the released guide's own fill.sh prints them over the translation 632c21c6c6972e7b… (all of the seat's roots in one cut). By AI agents, Wed Nov 11 2026. No macro, syntax, notation, axiom, sorry.
-/
import Derived.Test.Qxb6619569aFmtChecked
import GoSem.Claim
import GoSem.ClaimJoined
import GoSem.ClaimMapViews
import Derived.JoinedTies
import Derived.KernelRfl
namespace Go.Proofs.Qxb6619569aFmt
/- THE CELL 'sum', in the pinned program and in every row, IS THE sha256 OF THE DUMP (.gsa) THAT Qxb6619569aFmtProg.lean LOADS. Nothing in Lean hashes anything: it is a label: what it is worth is what the hold of that sum in a sandbox is worth. -/
noncomputable def Tryf.pinned : Pinned := { name := "qxb6619569afmt", sum := "632c21c6c6972e7bbcea1943692448d2cc93279b9476d3d031952b28eb65ae58", checked := Tryf.checked }
namespace Rows
def none {H : Type} : Left H := { results := [], args := [] }

/-- 'zzlaws_pkg_workload_e1.FnCheckProcsAcceptsExactlyOneToMaxProcs': WHATEVER THE INPUT: true; the input reads as it did. -/
def fnCheckProcsAcceptsExactlyOneToMaxProcsSpec : ChangeSpec := { name := "fnCheckProcsAcceptsExactlyOneToMaxProcs", fn := fun _ => fun
  | [d] => { results := [.lit (.bool true)], args := [d] }
  | _ => none }
def fnCheckProcsAcceptsExactlyOneToMaxProcsRow : OpenClaim := { program := "qxb6619569afmt", sum := "632c21c6c6972e7bbcea1943692448d2cc93279b9476d3d031952b28eb65ae58", func := "example.com/tier3/tier3/zzlaws_pkg_workload_e1.FnCheckProcsAcceptsExactlyOneToMaxProcs", spec := "fnCheckProcsAcceptsExactlyOneToMaxProcs", stops := ["fmt.errorf"], inPlace := ["fmt.errorf"], apart := false }
/-- NO THEOREM (fmt's text is open here; it may be false): for the released tool's asking of the row's closed facts alone. THE STATEMENT IS 'FnCheckProcsAcceptsExactlyOneToMaxProcsToldSaid' (Qxb6619569aFmtCards.lean). -/
def FnCheckProcsAcceptsExactlyOneToMaxProcsFormAsk : Prop := fnCheckProcsAcceptsExactlyOneToMaxProcsRow.holds Tryf.pinned (OpenSpec.ofChange fnCheckProcsAcceptsExactlyOneToMaxProcsSpec)

/-- ITS FALSE NEIGHBOUR: 'it returns false'. Refute it at one input. -/
def fnCheckProcsAcceptsExactlyOneToMaxProcsWrong : ChangeSpec := { name := "fnCheckProcsAcceptsExactlyOneToMaxProcs", fn := fun _ => fun
  | [d] => { results := [.lit (.bool false)], args := [d] }
  | _ => none }
def FnCheckProcsAcceptsExactlyOneToMaxProcsWrongFormAsk : Prop := fnCheckProcsAcceptsExactlyOneToMaxProcsRow.holds Tryf.pinned (OpenSpec.ofChange fnCheckProcsAcceptsExactlyOneToMaxProcsWrong)

/-- 'zzlaws_pkg_workload_e1.FnCheckProcsFlipsOnlyAtTheEnds': WHATEVER THE INPUT: true; the input reads as it did. -/
def fnCheckProcsFlipsOnlyAtTheEndsSpec : ChangeSpec := { name := "fnCheckProcsFlipsOnlyAtTheEnds", fn := fun _ => fun
  | [d] => { results := [.lit (.bool true)], args := [d] }
  | _ => none }
def fnCheckProcsFlipsOnlyAtTheEndsRow : OpenClaim := { program := "qxb6619569afmt", sum := "632c21c6c6972e7bbcea1943692448d2cc93279b9476d3d031952b28eb65ae58", func := "example.com/tier3/tier3/zzlaws_pkg_workload_e1.FnCheckProcsFlipsOnlyAtTheEnds", spec := "fnCheckProcsFlipsOnlyAtTheEnds", stops := ["fmt.errorf"], inPlace := ["fmt.errorf"], apart := false }
/-- NO THEOREM (fmt's text is open here; it may be false): for the released tool's asking of the row's closed facts alone. THE STATEMENT IS 'FnCheckProcsFlipsOnlyAtTheEndsToldSaid' (Qxb6619569aFmtCards.lean). -/
def FnCheckProcsFlipsOnlyAtTheEndsFormAsk : Prop := fnCheckProcsFlipsOnlyAtTheEndsRow.holds Tryf.pinned (OpenSpec.ofChange fnCheckProcsFlipsOnlyAtTheEndsSpec)

/-- ITS FALSE NEIGHBOUR: 'it returns false'. Refute it at one input. -/
def fnCheckProcsFlipsOnlyAtTheEndsWrong : ChangeSpec := { name := "fnCheckProcsFlipsOnlyAtTheEnds", fn := fun _ => fun
  | [d] => { results := [.lit (.bool false)], args := [d] }
  | _ => none }
def FnCheckProcsFlipsOnlyAtTheEndsWrongFormAsk : Prop := fnCheckProcsFlipsOnlyAtTheEndsRow.holds Tryf.pinned (OpenSpec.ofChange fnCheckProcsFlipsOnlyAtTheEndsWrong)

end Rows
end Go.Proofs.Qxb6619569aFmt

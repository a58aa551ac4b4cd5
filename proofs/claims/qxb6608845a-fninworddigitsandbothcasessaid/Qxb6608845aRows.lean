/-
  No cell of these rows narrows 'for every input' (looked for: loops, veiled, ifaces, maps, wideKeys, modest, calm, conditions, laid).
  DERIVED. THE GIVEN ROWS OF THIS SEAT. 1 by the template 'for every input the law returns true; each argument reads behind the call as it read before'; 0 by the template 'total and deterministic' (their statements: Qxb6608845aTotals.lean).
  GIVEN WITH THE SEED: the statements are not yours to turn. If you find one false, say at which input.
  Laid BY PROGRAM, IN A SANDBOX (cutbox-rows.mjs): the forced cells as the released guide's own fill.sh prints them over the translation c49d5e124bebba85… (all of the seat's roots in one cut). By AI agents, Wed Nov 11 2026. No macro, syntax, notation, axiom, sorry.
-/
import Derived.Test.Qxb6608845aChecked
import GoSem.Claim
import GoSem.ClaimJoined
import GoSem.ClaimMapViews
import Derived.JoinedTies
import Derived.KernelRfl
namespace Go.Proofs.Qxb6608845a
/- THE CELL 'sum', in the pinned program and in every row, IS THE sha256 OF THE DUMP (.gsa) THAT Qxb6608845aProg.lean LOADS. Nothing in Lean hashes anything: it is a label: what it is worth is what the hold of that sum in a sandbox is worth. -/
noncomputable def Try.pinned : Pinned := { name := "qxb6608845a", sum := "c49d5e124bebba852ec1be8e7d1728616dd70cfaa6d8688cd0a37dba3ad17eb7", checked := Try.checked }
namespace Rows
def none {H : Type} : Left H := { results := [], args := [] }

/-- 'zzlaws_table_b1.FnInWordDigitsAndBothCases': WHATEVER THE INPUT: true; the input reads as it did. -/
def fnInWordDigitsAndBothCasesSpec : ChangeSpec := { name := "fnInWordDigitsAndBothCases", fn := fun _ => fun
  | [d] => { results := [.lit (.bool true)], args := [d] }
  | _ => none }
def fnInWordDigitsAndBothCasesRow : OpenClaim := { program := "qxb6608845a", sum := "c49d5e124bebba852ec1be8e7d1728616dd70cfaa6d8688cd0a37dba3ad17eb7", func := "example.com/kinledger/kinledger/zzlaws_table_b1.FnInWordDigitsAndBothCases", spec := "fnInWordDigitsAndBothCases", inPlace := ["internal/bytealg.IndexByteString", "internal/bytealg.IndexString"], named := ["internal/bytealg.MaxLen"], apart := false }
def FnInWordDigitsAndBothCasesSaid : Prop := fnInWordDigitsAndBothCasesRow.holds Try.pinned (OpenSpec.ofChange fnInWordDigitsAndBothCasesSpec)

/-- ITS FALSE NEIGHBOUR: 'it returns false'. Refute it at one input. -/
def fnInWordDigitsAndBothCasesWrong : ChangeSpec := { name := "fnInWordDigitsAndBothCases", fn := fun _ => fun
  | [d] => { results := [.lit (.bool false)], args := [d] }
  | _ => none }
def FnInWordDigitsAndBothCasesWrongFalsely : Prop := fnInWordDigitsAndBothCasesRow.holds Try.pinned (OpenSpec.ofChange fnInWordDigitsAndBothCasesWrong)

end Rows
end Go.Proofs.Qxb6608845a

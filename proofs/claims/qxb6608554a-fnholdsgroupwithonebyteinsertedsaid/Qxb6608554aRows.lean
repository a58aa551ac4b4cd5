/-
  No cell of these rows narrows 'for every input' (looked for: loops, veiled, ifaces, maps, wideKeys, modest, calm, conditions, laid).
  DERIVED. THE GIVEN ROWS OF THIS SEAT. 2 by the template 'for every input the law returns true; each argument reads behind the call as it read before'; 0 by the template 'total and deterministic' (their statements: Qxb6608554aTotals.lean).
  GIVEN WITH THE SEED: the statements are not yours to turn. If you find one false, say at which input.
  Laid BY PROGRAM, IN A SANDBOX (cutbox-rows.mjs): the forced cells as the released guide's own fill.sh prints them over the translation 37f732e5af6dc560… (all of the seat's roots in one cut). By AI agents, Wed Nov 11 2026. No macro, syntax, notation, axiom, sorry.
-/
import Derived.Test.Qxb6608554aChecked
import GoSem.Claim
import GoSem.ClaimJoined
import GoSem.ClaimMapViews
import Derived.JoinedTies
import Derived.KernelRfl
namespace Go.Proofs.Qxb6608554a
/- THE CELL 'sum', in the pinned program and in every row, IS THE sha256 OF THE DUMP (.gsa) THAT Qxb6608554aProg.lean LOADS. Nothing in Lean hashes anything: it is a label: what it is worth is what the hold of that sum in a sandbox is worth. -/
noncomputable def Try.pinned : Pinned := { name := "qxb6608554a", sum := "37f732e5af6dc560dc9710939fd4505be8602b1c3e1281f3f7b4da4af0b9e260", checked := Try.checked }
namespace Rows
def none {H : Type} : Left H := { results := [], args := [] }

/-- 'zzlaws_internal_watch_b1.FnHoldsGroupAtAnyCut': WHATEVER THE INPUT: true; the input reads as it did. -/
def fnHoldsGroupAtAnyCutSpec : ChangeSpec := { name := "fnHoldsGroupAtAnyCut", fn := fun _ => fun
  | [d1, d2] => { results := [.lit (.bool true)], args := [d1, d2] }
  | _ => none }
def fnHoldsGroupAtAnyCutRow : OpenClaim := { program := "qxb6608554a", sum := "37f732e5af6dc560dc9710939fd4505be8602b1c3e1281f3f7b4da4af0b9e260", func := "example.com/tarwatch/tarwatch/zzlaws_internal_watch_b1.FnHoldsGroupAtAnyCut", spec := "fnHoldsGroupAtAnyCut", inPlace := ["internal/bytealg.IndexByteString"], apart := false }
def FnHoldsGroupAtAnyCutSaid : Prop := fnHoldsGroupAtAnyCutRow.holds Try.pinned (OpenSpec.ofChange fnHoldsGroupAtAnyCutSpec)

/-- ITS FALSE NEIGHBOUR: 'it returns false'. Refute it at one input. -/
def fnHoldsGroupAtAnyCutWrong : ChangeSpec := { name := "fnHoldsGroupAtAnyCut", fn := fun _ => fun
  | [d1, d2] => { results := [.lit (.bool false)], args := [d1, d2] }
  | _ => none }
def FnHoldsGroupAtAnyCutWrongFalsely : Prop := fnHoldsGroupAtAnyCutRow.holds Try.pinned (OpenSpec.ofChange fnHoldsGroupAtAnyCutWrong)

/-- 'zzlaws_internal_watch_b1.FnHoldsGroupWithOneByteInserted': WHATEVER THE INPUT: true; the input reads as it did. -/
def fnHoldsGroupWithOneByteInsertedSpec : ChangeSpec := { name := "fnHoldsGroupWithOneByteInserted", fn := fun _ => fun
  | [d1, d2, d3] => { results := [.lit (.bool true)], args := [d1, d2, d3] }
  | _ => none }
def fnHoldsGroupWithOneByteInsertedRow : OpenClaim := { program := "qxb6608554a", sum := "37f732e5af6dc560dc9710939fd4505be8602b1c3e1281f3f7b4da4af0b9e260", func := "example.com/tarwatch/tarwatch/zzlaws_internal_watch_b1.FnHoldsGroupWithOneByteInserted", spec := "fnHoldsGroupWithOneByteInserted", inPlace := ["internal/bytealg.IndexByteString"], apart := false }
def FnHoldsGroupWithOneByteInsertedSaid : Prop := fnHoldsGroupWithOneByteInsertedRow.holds Try.pinned (OpenSpec.ofChange fnHoldsGroupWithOneByteInsertedSpec)

/-- ITS FALSE NEIGHBOUR: 'it returns false'. Refute it at one input. -/
def fnHoldsGroupWithOneByteInsertedWrong : ChangeSpec := { name := "fnHoldsGroupWithOneByteInserted", fn := fun _ => fun
  | [d1, d2, d3] => { results := [.lit (.bool false)], args := [d1, d2, d3] }
  | _ => none }
def FnHoldsGroupWithOneByteInsertedWrongFalsely : Prop := fnHoldsGroupWithOneByteInsertedRow.holds Try.pinned (OpenSpec.ofChange fnHoldsGroupWithOneByteInsertedWrong)

end Rows
end Go.Proofs.Qxb6608554a
